import JvmDerived
import JvmDerived.Pilot.@@N@@Statement
import JvmDerived.Pilot.@@N@@Code
set_option linter.unusedVariables false
set_option linter.unusedSimpArgs false
namespace Jvm.Own
open Sem ClassFile Op Lib Jvm.Stand Jvm.Free Jvm.LawKit Jvm.RoadKit
section Steps
variable {p : Program} {l : Launch} {e : Env} {R : Room} {s : State} {m : MethodId} {args : Array Value} {below : List Frame} {meth : Method} {c : Code} {T t : State} {locs : List Loc} {cells slots : Nat} {pc : Nat} {Ls Ls' : Array Slot} {S : List Value}
theorem iloadN (X : Stand p l e R s m args below meth c T locs cells slots) (hx : p.tables.exec = Jvm.exec) {k : Fin 4} {v : Int32} (hd : decode c.code pc = .ok (.iload_n k, 1)) (hl : Ls[k.val]? = some (.val (.int v))) (hr : Steps p.tables e below (T.setTop (mkF m (pc + 1) Ls (.int v :: S))) t) : Steps p.tables e below (T.setTop (mkF m pc Ls S)) t := XS.iloadN X.here hx rfl hd hl hr
theorem iload (X : Stand p l e R s m args below meth c T locs cells slots) (hx : p.tables.exec = Jvm.exec) {k : Nat} {v : Int32} (hd : decode c.code pc = .ok (.iload k, 2)) (hl : Ls[k]? = some (.val (.int v))) (hr : Steps p.tables e below (T.setTop (mkF m (pc + 2) Ls (.int v :: S))) t) : Steps p.tables e below (T.setTop (mkF m pc Ls S)) t := XS.iload X.here hx rfl hd hl hr
theorem istoreN (X : Stand p l e R s m args below meth c T locs cells slots) (hx : p.tables.exec = Jvm.exec) {k : Fin 4} {v : Int32} (Ls' : Array Slot) (hd : decode c.code pc = .ok (.istore_n k, 1)) (hl : storeLocals Ls k.val (.int v) = some Ls') (hr : Steps p.tables e below (T.setTop (mkF m (pc + 1) Ls' S)) t) : Steps p.tables e below (T.setTop (mkF m pc Ls (.int v :: S))) t := XS.istoreN X.here hx rfl hd rfl hl hr
theorem istore (X : Stand p l e R s m args below meth c T locs cells slots) (hx : p.tables.exec = Jvm.exec) {k : Nat} {v : Int32} (Ls' : Array Slot) (hd : decode c.code pc = .ok (.istore k, 2)) (hl : storeLocals Ls k (.int v) = some Ls') (hr : Steps p.tables e below (T.setTop (mkF m (pc + 2) Ls' S)) t) : Steps p.tables e below (T.setTop (mkF m pc Ls (.int v :: S))) t := XS.istore X.here hx rfl hd rfl hl hr
theorem lloadN (X : Stand p l e R s m args below meth c T locs cells slots) (hx : p.tables.exec = Jvm.exec) {k : Fin 4} {v : Int64} (hd : decode c.code pc = .ok (.lload_n k, 1)) (hl : Ls[k.val]? = some (.val (.long v))) (hr : Steps p.tables e below (T.setTop (mkF m (pc + 1) Ls (.long v :: S))) t) : Steps p.tables e below (T.setTop (mkF m pc Ls S)) t := XS.lloadN X.here hx rfl hd hl hr
theorem lstoreN (X : Stand p l e R s m args below meth c T locs cells slots) (hx : p.tables.exec = Jvm.exec) {k : Fin 4} {v : Int64} (Ls' : Array Slot) (hd : decode c.code pc = .ok (.lstore_n k, 1)) (hl : storeLocals Ls k.val (.long v) = some Ls') (hr : Steps p.tables e below (T.setTop (mkF m (pc + 1) Ls' S)) t) : Steps p.tables e below (T.setTop (mkF m pc Ls (.long v :: S))) t := XS.lstoreN X.here hx rfl hd rfl hl hr
theorem aloadN (X : Stand p l e R s m args below meth c T locs cells slots) (hx : p.tables.exec = Jvm.exec) {k : Fin 4} {v : Value} (hd : decode c.code pc = .ok (.aload_n k, 1)) (hl : Ls[k.val]? = some (.val v)) (hv : v.isRef = true) (hr : Steps p.tables e below (T.setTop (mkF m (pc + 1) Ls (v :: S))) t) : Steps p.tables e below (T.setTop (mkF m pc Ls S)) t := XS.aloadN X.here hx rfl hd hl hv hr
theorem aload (X : Stand p l e R s m args below meth c T locs cells slots) (hx : p.tables.exec = Jvm.exec) {k : Nat} {v : Value} (hd : decode c.code pc = .ok (.aload k, 2)) (hl : Ls[k]? = some (.val v)) (hv : v.isRef = true) (hr : Steps p.tables e below (T.setTop (mkF m (pc + 2) Ls (v :: S))) t) : Steps p.tables e below (T.setTop (mkF m pc Ls S)) t := XS.aload X.here hx rfl hd hl hv hr
theorem astoreN (X : Stand p l e R s m args below meth c T locs cells slots) (hx : p.tables.exec = Jvm.exec) {k : Fin 4} {v : Value} (Ls' : Array Slot) (hd : decode c.code pc = .ok (.astore_n k, 1)) (hv : v.isRef = true) (hl : storeLocals Ls k.val v = some Ls') (hr : Steps p.tables e below (T.setTop (mkF m (pc + 1) Ls' S)) t) : Steps p.tables e below (T.setTop (mkF m pc Ls (v :: S))) t := XS.astoreN X.here hx rfl hd rfl hv hl hr
theorem astore (X : Stand p l e R s m args below meth c T locs cells slots) (hx : p.tables.exec = Jvm.exec) {k : Nat} {v : Value} (Ls' : Array Slot) (hd : decode c.code pc = .ok (.astore k, 2)) (hv : v.isRef = true) (hl : storeLocals Ls k v = some Ls') (hr : Steps p.tables e below (T.setTop (mkF m (pc + 2) Ls' S)) t) : Steps p.tables e below (T.setTop (mkF m pc Ls (v :: S))) t := XS.astore X.here hx rfl hd rfl hv hl hr
theorem iconst (X : Stand p l e R s m args below meth c T locs cells slots) (hx : p.tables.exec = Jvm.exec) {i : Int} (v : Int32) (hd : decode c.code pc = .ok (.iconst i, 1)) (hv : Int32.ofInt i = v) (hr : Steps p.tables e below (T.setTop (mkF m (pc + 1) Ls (.int v :: S))) t) : Steps p.tables e below (T.setTop (mkF m pc Ls S)) t := XS.iconst X.here hx rfl hd (hv ▸ hr)
theorem bipush (X : Stand p l e R s m args below meth c T locs cells slots) (hx : p.tables.exec = Jvm.exec) {i : Int} (v : Int32) (hd : decode c.code pc = .ok (.bipush i, 2)) (hv : (Int8.ofInt i).toInt32 = v) (hr : Steps p.tables e below (T.setTop (mkF m (pc + 2) Ls (.int v :: S))) t) : Steps p.tables e below (T.setTop (mkF m pc Ls S)) t := XS.bipush X.here hx rfl hd (hv ▸ hr)
theorem sipush (X : Stand p l e R s m args below meth c T locs cells slots) (hx : p.tables.exec = Jvm.exec) {i : Int} (v : Int32) (hd : decode c.code pc = .ok (.sipush i, 3)) (hv : (Int16.ofInt i).toInt32 = v) (hr : Steps p.tables e below (T.setTop (mkF m (pc + 3) Ls (.int v :: S))) t) : Steps p.tables e below (T.setTop (mkF m pc Ls S)) t := XS.sipush X.here hx rfl hd (hv ▸ hr)
theorem lconst (X : Stand p l e R s m args below meth c T locs cells slots) (hx : p.tables.exec = Jvm.exec) {k : Fin 2} (v : Int64) (hd : decode c.code pc = .ok (.lconst k, 1)) (hv : Int64.ofNat k = v) (hr : Steps p.tables e below (T.setTop (mkF m (pc + 1) Ls (.long v :: S))) t) : Steps p.tables e below (T.setTop (mkF m pc Ls S)) t := XS.lconst X.here hx rfl hd (hv ▸ hr)
theorem aconstNull (X : Stand p l e R s m args below meth c T locs cells slots) (hx : p.tables.exec = Jvm.exec)  (hd : decode c.code pc = .ok (.aconst_null, 1)) (hr : Steps p.tables e below (T.setTop (mkF m (pc + 1) Ls (.null :: S))) t) : Steps p.tables e below (T.setTop (mkF m pc Ls S)) t := XS.aconstNull X.here hx rfl hd hr
theorem iadd (X : Stand p l e R s m args below meth c T locs cells slots) (hx : p.tables.exec = Jvm.exec) {x y : Int32} (hd : decode c.code pc = .ok (.iadd, 1)) (hr : Steps p.tables e below (T.setTop (mkF m (pc + 1) Ls (.int (x + y) :: S))) t) : Steps p.tables e below (T.setTop (mkF m pc Ls (.int y :: .int x :: S))) t := XS.iadd X.here hx rfl hd rfl hr
theorem isub (X : Stand p l e R s m args below meth c T locs cells slots) (hx : p.tables.exec = Jvm.exec) {x y : Int32} (hd : decode c.code pc = .ok (.isub, 1)) (hr : Steps p.tables e below (T.setTop (mkF m (pc + 1) Ls (.int (x - y) :: S))) t) : Steps p.tables e below (T.setTop (mkF m pc Ls (.int y :: .int x :: S))) t := XS.isub X.here hx rfl hd rfl hr
theorem imul (X : Stand p l e R s m args below meth c T locs cells slots) (hx : p.tables.exec = Jvm.exec) {x y : Int32} (hd : decode c.code pc = .ok (.imul, 1)) (hr : Steps p.tables e below (T.setTop (mkF m (pc + 1) Ls (.int (x * y) :: S))) t) : Steps p.tables e below (T.setTop (mkF m pc Ls (.int y :: .int x :: S))) t := XS.imul X.here hx rfl hd rfl hr
theorem iand (X : Stand p l e R s m args below meth c T locs cells slots) (hx : p.tables.exec = Jvm.exec) {x y : Int32} (hd : decode c.code pc = .ok (.iand, 1)) (hr : Steps p.tables e below (T.setTop (mkF m (pc + 1) Ls (.int (x &&& y) :: S))) t) : Steps p.tables e below (T.setTop (mkF m pc Ls (.int y :: .int x :: S))) t := XS.iand X.here hx rfl hd rfl hr
theorem ishr (X : Stand p l e R s m args below meth c T locs cells slots) (hx : p.tables.exec = Jvm.exec) {x y : Int32} (hd : decode c.code pc = .ok (.ishr, 1)) (hr : Steps p.tables e below (T.setTop (mkF m (pc + 1) Ls (.int (x >>> (y &&& 31)) :: S))) t) : Steps p.tables e below (T.setTop (mkF m pc Ls (.int y :: .int x :: S))) t := XS.ishr X.here hx rfl hd rfl hr
theorem iushr (X : Stand p l e R s m args below meth c T locs cells slots) (hx : p.tables.exec = Jvm.exec) {x y : Int32} (hd : decode c.code pc = .ok (.iushr, 1)) (hr : Steps p.tables e below (T.setTop (mkF m (pc + 1) Ls (.int ((x.toUInt32 >>> (y &&& 31).toUInt32).toInt32) :: S))) t) : Steps p.tables e below (T.setTop (mkF m pc Ls (.int y :: .int x :: S))) t := XS.iushr X.here hx rfl hd rfl hr
theorem land (X : Stand p l e R s m args below meth c T locs cells slots) (hx : p.tables.exec = Jvm.exec) {x y : Int64} (hd : decode c.code pc = .ok (.land, 1)) (hr : Steps p.tables e below (T.setTop (mkF m (pc + 1) Ls (.long (x &&& y) :: S))) t) : Steps p.tables e below (T.setTop (mkF m pc Ls (.long y :: .long x :: S))) t := XS.land X.here hx rfl hd rfl hr
theorem lushr (X : Stand p l e R s m args below meth c T locs cells slots) (hx : p.tables.exec = Jvm.exec) {x : Int64} {y : Int32} (hd : decode c.code pc = .ok (.lushr, 1)) (hr : Steps p.tables e below (T.setTop (mkF m (pc + 1) Ls (.long ((x.toUInt64 >>> (y &&& 0x3f).toInt64.toUInt64).toInt64) :: S))) t) : Steps p.tables e below (T.setTop (mkF m pc Ls (.int y :: .long x :: S))) t := XS.lushr X.here hx rfl hd rfl hr
theorem irem (X : Stand p l e R s m args below meth c T locs cells slots) (hx : p.tables.exec = Jvm.exec) {x y : Int32} (hd : decode c.code pc = .ok (.irem, 1)) (hy : y ≠ 0) (hr : Steps p.tables e below (T.setTop (mkF m (pc + 1) Ls (.int (x % y) :: S))) t) : Steps p.tables e below (T.setTop (mkF m pc Ls (.int y :: .int x :: S))) t := iremM X hx rfl hd rfl hy hr
theorem i2b (X : Stand p l e R s m args below meth c T locs cells slots) (hx : p.tables.exec = Jvm.exec) {x : Int32} (hd : decode c.code pc = .ok (.i2b, 1)) (hr : Steps p.tables e below (T.setTop (mkF m (pc + 1) Ls (.int (x.toInt8.toInt32) :: S))) t) : Steps p.tables e below (T.setTop (mkF m pc Ls (.int x :: S))) t := XS.i2b X.here hx rfl hd rfl hr
theorem i2c (X : Stand p l e R s m args below meth c T locs cells slots) (hx : p.tables.exec = Jvm.exec) {x : Int32} (hd : decode c.code pc = .ok (.i2c, 1)) (hr : Steps p.tables e below (T.setTop (mkF m (pc + 1) Ls (.int (x.toUInt32.toUInt16.toUInt32.toInt32) :: S))) t) : Steps p.tables e below (T.setTop (mkF m pc Ls (.int x :: S))) t := XS.i2c X.here hx rfl hd rfl hr
theorem l2i (X : Stand p l e R s m args below meth c T locs cells slots) (hx : p.tables.exec = Jvm.exec) {x : Int64} (hd : decode c.code pc = .ok (.l2i, 1)) (hr : Steps p.tables e below (T.setTop (mkF m (pc + 1) Ls (.int (x.toInt32) :: S))) t) : Steps p.tables e below (T.setTop (mkF m pc Ls (.long x :: S))) t := XS.l2i X.here hx rfl hd rfl hr
theorem iinc (X : Stand p l e R s m args below meth c T locs cells slots) (hx : p.tables.exec = Jvm.exec) {k : Nat} {cst : Int} {x : Int32} (v : Int32) (Ls' : Array Slot) (hd : decode c.code pc = .ok (.iinc k cst, 3)) (hl : Ls[k]? = some (.val (.int x))) (hv : x + Int32.ofInt cst = v) (hl' : storeLocals Ls k (.int v) = some Ls') (hr : Steps p.tables e below (T.setTop (mkF m (pc + 3) Ls' S)) t) : Steps p.tables e below (T.setTop (mkF m pc Ls S)) t := XS.iinc X.here hx rfl hd hl (hv ▸ hl') hr
theorem dup (X : Stand p l e R s m args below meth c T locs cells slots) (hx : p.tables.exec = Jvm.exec) {v : Value} (hd : decode c.code pc = .ok (.dup, 1)) (hc : v.category = 1) (hr : Steps p.tables e below (T.setTop (mkF m (pc + 1) Ls (v :: v :: S))) t) : Steps p.tables e below (T.setTop (mkF m pc Ls (v :: S))) t := XS.dup X.here hx rfl hd rfl hc hr
theorem goto (X : Stand p l e R s m args below meth c T locs cells slots) (hx : p.tables.exec = Jvm.exec) {o : Int} (pc' : Nat) (hd : decode c.code pc = .ok (.goto o, 3)) (ho : 0 ≤ (pc : Int) + o) (hp : ((pc : Int) + o).toNat = pc') (hr : Steps p.tables e below (T.setTop (mkF m pc' Ls S)) t) : Steps p.tables e below (T.setTop (mkF m pc Ls S)) t := XS.goto X.here hx rfl rfl hd ho hp hr
theorem ifYes (X : Stand p l e R s m args below meth c T locs cells slots) (hx : p.tables.exec = Jvm.exec) {cd : ClassFile.Cond} {o : Int} {x : Int32} (pc' : Nat) (hd : decode c.code pc = .ok (.ifCond cd o, 3)) (hc : ifCond.holds cd x = true) (ho : 0 ≤ (pc : Int) + o) (hp : ((pc : Int) + o).toNat = pc') (hr : Steps p.tables e below (T.setTop (mkF m pc' Ls S)) t) : Steps p.tables e below (T.setTop (mkF m pc Ls (.int x :: S))) t := XS.ifYes X.here hx rfl rfl hd rfl hc ho hp hr
theorem ifNo (X : Stand p l e R s m args below meth c T locs cells slots) (hx : p.tables.exec = Jvm.exec) {cd : ClassFile.Cond} {o : Int} {x : Int32} (hd : decode c.code pc = .ok (.ifCond cd o, 3)) (hc : ifCond.holds cd x = false) (hr : Steps p.tables e below (T.setTop (mkF m (pc + 3) Ls S)) t) : Steps p.tables e below (T.setTop (mkF m pc Ls (.int x :: S))) t := XS.ifNo X.here hx rfl hd rfl hc hr
theorem icmpYes (X : Stand p l e R s m args below meth c T locs cells slots) (hx : p.tables.exec = Jvm.exec) {cd : ClassFile.Cond} {o : Int} {x y : Int32} (pc' : Nat) (hd : decode c.code pc = .ok (.if_icmp cd o, 3)) (hc : if_icmp.holds cd x y = true) (ho : 0 ≤ (pc : Int) + o) (hp : ((pc : Int) + o).toNat = pc') (hr : Steps p.tables e below (T.setTop (mkF m pc' Ls S)) t) : Steps p.tables e below (T.setTop (mkF m pc Ls (.int y :: .int x :: S))) t := XS.icmpYes X.here hx rfl rfl hd rfl hc ho hp hr
theorem icmpNo (X : Stand p l e R s m args below meth c T locs cells slots) (hx : p.tables.exec = Jvm.exec) {cd : ClassFile.Cond} {o : Int} {x y : Int32} (hd : decode c.code pc = .ok (.if_icmp cd o, 3)) (hc : if_icmp.holds cd x y = false) (hr : Steps p.tables e below (T.setTop (mkF m (pc + 3) Ls S)) t) : Steps p.tables e below (T.setTop (mkF m pc Ls (.int y :: .int x :: S))) t := XS.icmpNo X.here hx rfl hd rfl hc hr
theorem lcmp (X : Stand p l e R s m args below meth c T locs cells slots) (hx : p.tables.exec = Jvm.exec) {x y : Int64} (hd : decode c.code pc = .ok (.lcmp, 1)) (hr : Steps p.tables e below (T.setTop (mkF m (pc + 1) Ls (.int (lcmpW x y) :: S))) t) : Steps p.tables e below (T.setTop (mkF m pc Ls (.long y :: .long x :: S))) t := XS.lcmp X.here hx rfl hd rfl hr
theorem ifnonnullYes (X : Stand p l e R s m args below meth c T locs cells slots) (hx : p.tables.exec = Jvm.exec) {o : Int} {b : Addr} (pc' : Nat) (hd : decode c.code pc = .ok (.ifnonnull o, 3)) (ho : 0 ≤ (pc : Int) + o) (hp : ((pc : Int) + o).toNat = pc') (hr : Steps p.tables e below (T.setTop (mkF m pc' Ls S)) t) : Steps p.tables e below (T.setTop (mkF m pc Ls (.ref b :: S))) t := XS.ifnonnullYes X.here hx rfl rfl hd rfl ho hp hr
theorem ifnonnullNo (X : Stand p l e R s m args below meth c T locs cells slots) (hx : p.tables.exec = Jvm.exec) {o : Int}  (hd : decode c.code pc = .ok (.ifnonnull o, 3)) (hr : Steps p.tables e below (T.setTop (mkF m (pc + 3) Ls S)) t) : Steps p.tables e below (T.setTop (mkF m pc Ls (.null :: S))) t := XS.ifnonnullNo X.here hx rfl hd rfl hr
theorem ldcI (X : Stand p l e R s m args below meth c T locs cells slots) (hx : p.tables.exec = Jvm.exec) {Z : State} {a0 : Array Value} {own : String} {index : Nat} (v : Int32) (hZ : Z.Warmed39 s.vm) (hown : s.vm.findClass own = some m.cls) (w : (Cond.constant own index v).before a0 Z = true) (hd : decode c.code pc = .ok (.ldc index, 2)) (hr : Steps p.tables e below (T.setTop (mkF m (pc + 2) Ls (.int v :: S))) t) : Steps p.tables e below (T.setTop (mkF m pc Ls S)) t := Jvm.Stand.ldcI (g := mkF m pc Ls S) X hx hown (mv hZ w) rfl hd hr
theorem ldc2J (X : Stand p l e R s m args below meth c T locs cells slots) (hx : p.tables.exec = Jvm.exec) {Z : State} {a0 : Array Value} {own : String} {index : Nat} (v : Int64) (hZ : Z.Warmed39 s.vm) (hown : s.vm.findClass own = some m.cls) (w : (Cond.constantLong own index v).before a0 Z = true) (hd : decode c.code pc = .ok (.ldc2_w index, 3)) (hr : Steps p.tables e below (T.setTop (mkF m (pc + 3) Ls (.long v :: S))) t) : Steps p.tables e below (T.setTop (mkF m pc Ls S)) t := Jvm.Stand.ldc2J (g := mkF m pc Ls S) X hx hown (mv hZ w) rfl hd hr
theorem caload (X : Stand p l e R s m args below meth c T locs cells slots) (hx : p.tables.exec = Jvm.exec) {Z : State} {h : Heap} {a : Addr} {cl : Cell} {j : Int32} (v : Value) (hZ : Z.Warmed39 s.vm) (eT : T.heap = h) (A : Arr Z h a cl .char) (hin : ¬ (j < 0 ∨ cl.slots.size ≤ j.toNatClampNeg)) (hat : cl.slots[j.toNatClampNeg]? = some v) (hd : decode c.code pc = .ok (.caload, 1)) (hr : Steps p.tables e below (T.setTop (mkF m (pc + 1) Ls (v :: S))) t) : Steps p.tables e below (T.setTop (mkF m pc Ls (.int j :: .ref a :: S))) t := X.caload hx (j := j) (v := v) (by rw [eT]; exact A.1) (State.isArrayOf_alike hZ.alike A.2.1) A.2.2 hin hat (g := mkF m pc Ls (.int j :: .ref a :: S)) rfl rfl hd _ hr
theorem baload (X : Stand p l e R s m args below meth c T locs cells slots) (hx : p.tables.exec = Jvm.exec) {Z : State} {h : Heap} {a : Addr} {cl : Cell} {j : Int32} (v : Value) (hZ : Z.Warmed39 s.vm) (eT : T.heap = h) (A : Arr Z h a cl .byte) (hin : ¬ (j < 0 ∨ cl.slots.size ≤ j.toNatClampNeg)) (hat : cl.slots[j.toNatClampNeg]? = some v) (hd : decode c.code pc = .ok (.baload, 1)) (hr : Steps p.tables e below (T.setTop (mkF m (pc + 1) Ls (v :: S))) t) : Steps p.tables e below (T.setTop (mkF m pc Ls (.int j :: .ref a :: S))) t := X.baloadBytes hx (j := j) (v := v) (by rw [eT]; exact A.1) (State.isArrayOf_alike hZ.alike A.2.1) A.2.2 hin hat (g := mkF m pc Ls (.int j :: .ref a :: S)) rfl rfl hd _ hr
theorem arraylength (X : Stand p l e R s m args below meth c T locs cells slots) (hx : p.tables.exec = Jvm.exec) {Z : State} {h : Heap} {a : Addr} {cl : Cell} {ty : FieldType} (n : Int32) (hZ : Z.Warmed39 s.vm) (eT : T.heap = h) (A : Arr Z h a cl ty) (hn : cl.slots.size.toInt32 = n) (hd : decode c.code pc = .ok (.arraylength, 1)) (hr : Steps p.tables e below (T.setTop (mkF m (pc + 1) Ls (.int n :: S))) t) : Steps p.tables e below (T.setTop (mkF m pc Ls (.ref a :: S))) t := X.arraylength hx (cell := cl) (by rw [eT]; exact A.1) (State.isArrayOf_alike hZ.alike A.2.1) (g := mkF m pc Ls (.ref a :: S)) rfl rfl hd _ (hn ▸ hr)
end Steps
/-! what a body is said to leave -/
def Con (l : Launch) (Z : State) (y : MethodName) (bytes : ByteArray) (maxL : Nat) (ret : Option FieldType) (rm : Room) (as' : Array Value) (h0 : Heap) (Q : Option Value → Heap → List Loc → Prop) : Prop :=
  ∀ ws : List Jvm.Cond, MetFree l y (head1 (Jvm.Cond.code y bytes maxL ret :: ws) rm) (fun a U => a = as' ∧ Z.Warmed39 U.vm ∧ U.heap = h0) (fun _ _ _ _ _ => True) (fun _ U o U' => ∃ v L, o = .returned v ∧ Q v U'.heap L ∧ FrameEnd U o U' L rm.cells rm.slots)
abbrev Pure (v : Value) (h0 : Heap) (v' : Option Value) (h : Heap) (L : List Loc) : Prop := v' = some v ∧ L = [] ∧ h = h0
abbrev Law1 (h0 : Heap) (v : Option Value) (h : Heap) (L : List Loc) : Prop := v = some (.int 1) ∧ Fr h0.size L
theorem Con.mono {l : Launch} {Z : State} {y : MethodName} {bytes : ByteArray} {maxL : Nat} {ret : Option FieldType} {rm : Room} {as' : Array Value} {h0 : Heap} {Q Q' : Option Value → Heap → List Loc → Prop} (hM : Con l Z y bytes maxL ret rm as' h0 Q) (hQ : ∀ v h L, Q v h L → Q' v h L) : Con l Z y bytes maxL ret rm as' h0 Q' := by
  intro ws p e ha hc hk s m args below hf happ hP hK
  obtain ⟨n, o, h1, h2, h3, v, L, h4, h5, h6⟩ := hM ws p e ha hc hk s m args below hf happ hP hK
  exact ⟨n, o, h1, h2, h3, v, L, h4, hQ _ _ _ h5, h6⟩
theorem Con.law {l : Launch} {Z : State} {y : MethodName} {bytes : ByteArray} {maxL : Nat} {ret : Option FieldType} {rm : Room} {as' : Array Value} {h0 : Heap} {v : Value} (hM : Con l Z y bytes maxL ret rm as' h0 (Pure v h0)) (e : v = .int 1) : Con l Z y bytes maxL ret rm as' h0 (Law1 h0) :=
  hM.mono fun _ _ _ ⟨h1, h2, _⟩ => ⟨by rw [h1, e], by rw [h2]; exact Fr.nil _⟩
abbrev Fin (p : Program) (e : Env) (below : List Frame) (B0 s : State) (C D : Nat) (Q : Option Value → Heap → List Loc → Prop) : Prop := ∃ s₂ o, Steps p.tables e below B0 s₂ ∧ s₂.status = .running ∧ Ended s₂ below o ∧ ∃ v L, o = .returned v ∧ Q v s₂.heap L ∧ FrameEnd s o s₂ L C D
section Ends
variable {p : Program} {l : Launch} {e : Env} {R : Room} {s : State} {m : MethodId} {args : Array Value} {below : List Frame} {meth : Method} {c : Code} {T B0 : State} {locs : List Loc} {cells slots C D : Nat} {pc : Nat} {Ls : Array Slot} {rest : List Value} {Q : Option Value → Heap → List Loc → Prop}
theorem retI (X : Stand p l e R s m args below meth c T locs cells slots) (hx : p.tables.exec = Jvm.exec) {z : Int32} (hret : meth.sig.returnType = some .int) (hd : decode c.code pc = .ok (.ireturn, 1)) {fs : List Frame}
    (hl : ∀ (f : JFrame) (acts : List Action), f.method = m → f.locked = none → f.entered = [] → (doReturn e (T.setTop f) acts (some (.int z))).1 = T.setFrames fs) : Steps p.tables e below (T.setTop (mkF m pc Ls (.int z :: rest))) (T.setFrames fs) :=
  retOut X hx hret rfl (Or.inl ⟨rfl, Or.inl rfl, z, rfl⟩) hd hl
theorem finI (X : Stand p l e R s m args below meth c T locs cells slots) (hx : p.tables.exec = Jvm.exec) (hlk : meth.locks = false) (hret : meth.sig.returnType = some .int) {z : Int32} (hd : decode c.code pc = .ok (.ireturn, 1))
    (K : ∀ t, Steps p.tables e below (T.setTop (mkF m pc Ls (.int z :: rest))) t → Steps p.tables e below B0 t) (hC : cells ≤ C) (hD : slots ≤ D) (hQ : Q (some (.int z)) T.heap locs) :
    Fin p e below B0 s C D Q := by
  obtain ⟨fs, hr, hrun, hended, hW, hsame⟩ := X.leave (v := some (.int z)) (fun h => by rw [hret] at h; cases h) hlk
  exact ⟨_, _, K _ (retI X hx hret hd hr), hrun, hended, _, _, rfl, hQ, ⟨_, rfl⟩, hW, hsame.mono hC hD⟩
theorem finN (X : Stand p l e R s m args below meth c T locs cells slots) (hx : p.tables.exec = Jvm.exec) (hlk : meth.locks = false) {ty : FieldType} (hret : meth.sig.returnType = some ty) (ht : ty = .boolean ∨ ty = .byte ∨ ty = .char ∨ ty = .short) {z : Int32} (hd : decode c.code pc = .ok (.ireturn, 1))
    (K : ∀ t, Steps p.tables e below (T.setTop (mkF m pc Ls (.int z :: rest))) t → Steps p.tables e below B0 t) (hC : cells ≤ C) (hD : slots ≤ D) (hQ : Q (some (.int (nar ty z))) T.heap locs) :
    Fin p e below B0 s C D Q := by
  obtain ⟨fs, hr, hrun, hended, hW, hsame⟩ := X.leave (v := some (.int (nar ty z))) (fun h => by rw [hret] at h; cases h) hlk
  exact ⟨_, _, K _ (retN X hx hret ht hd hr), hrun, hended, _, _, rfl, hQ, ⟨_, rfl⟩, hW, hsame.mono hC hD⟩
theorem narrow_ref {ty : FieldType} {v : Value} (ht : ty.isReference = true) (hv : v.isRef = true) : narrow ty v = v := by
  cases ty <;> first | (cases ht; done) | (cases v <;> first | rfl | (cases hv; done))
end Ends
section Calls
variable {p : Program} {l : Launch} {e : Env} {R : Room} {s : State} {m : MethodId} {args : Array Value} {below : List Frame} {meth : Method} {c : Code} {T : State} {locs : List Loc} {cells slots : Nat} {pc : Nat} {Ls : Array Slot} {Z : State} {a0 : Array Value} {h : Heap}
theorem callC (X : Stand p l e R s m args below meth c T locs cells slots) (hx : p.tables.exec = Jvm.exec) (hZ : Z.Warmed39 s.vm) (eT : T.heap = h) {own : String} {index : Nat} {y : MethodName} {bytes : ByteArray} {maxL : Nat} {ret : Option FieldType} {rm : Room} {Q : Option Value → Heap → List Loc → Prop}
    (argsL rest : List Value) (hM : Con l Z y bytes maxL ret rm argsL.toArray h Q) (hown : s.vm.findClass own = some m.cls) (w1 : (Cond.methodLink own index y).before a0 Z = true) (w2 : (Cond.static y).before a0 Z = true) (w3 : (Cond.initialized y.cls).before a0 Z = true) (w4 : (Cond.code y bytes maxL ret).before a0 Z = true)
    (hy : y.cls ≠ "java/lang/invoke/MethodHandle" ∧ y.cls ≠ "java/lang/invoke/VarHandle") (W : Nat) (hf : rm.frames + 1 ≤ R.frames) (hl : W + (maxL + 11) + rm.locals ≤ R.locals) (hcR : cells + rm.cells ≤ R.cells) (hsR : slots + rm.slots ≤ R.slots) (hsz : Ls.size = c.maxLocals)
    {S : List Value} (hlen : ∀ sig, parseMethodDescriptor y.desc = some sig → argsL.length = sig.parameters.length) (hS : S = argsL.reverse ++ rest) (hW : (rest.map fun v => v.category).sum ≤ W) (hd : decode c.code pc = .ok (.invokestatic index, 3)) :
    ∃ (T' : State) (v : Option Value) (L : List Loc), Stand p l e R s m args below meth c T' (locs ++ L) (cells + rm.cells) (slots + rm.slots) ∧ Q v T'.heap L ∧ ∀ t, Steps p.tables e below (T'.setTop (mkF m (pc + 3) Ls (v.toList ++ rest))) t → Steps p.tables e below (T.setTop (mkF m pc Ls S)) t := by
  obtain ⟨v, _, ⟨T', L', k', n'⟩, -, X', ⟨L, hQ, l', y', z'⟩, st⟩ := Jvm.LawKit.callS X hx (y := y) hown (mvT hZ w1) (mvT hZ w2) (mvT hZ w3) (mvT hZ w4) hy (backOf (W := W) (hM []) hZ w4 w3 hf hl) (g := mkF m pc Ls S) rfl hsz (argsL := argsL) (rest := rest) hlen hS (by show 2 * 0 + _ ≤ _; rw [Nat.mul_zero, Nat.zero_add]; exact hW) hd (fun _ _ => ⟨rfl, eT, hcR, hsR⟩)
  dsimp only [Pt.U, Pt.locs, Pt.cells, Pt.slots] at X' l' y' z' st hQ
  subst l' y' z'
  exact ⟨T', v, L, X', hQ, st⟩
theorem callP (X : Stand p l e R s m args below meth c T locs cells slots) (hx : p.tables.exec = Jvm.exec) (hZ : Z.Warmed39 s.vm) (eT : T.heap = h) {own : String} {index : Nat} {y : MethodName} {bytes : ByteArray} {maxL : Nat} {ret : Option FieldType} {rm : Room} {v : Value}
    (argsL rest : List Value) (hM : Con l Z y bytes maxL ret rm argsL.toArray h (Pure v h)) (hown : s.vm.findClass own = some m.cls) (w1 : (Cond.methodLink own index y).before a0 Z = true) (w2 : (Cond.static y).before a0 Z = true) (w3 : (Cond.initialized y.cls).before a0 Z = true) (w4 : (Cond.code y bytes maxL ret).before a0 Z = true)
    (hy : y.cls ≠ "java/lang/invoke/MethodHandle" ∧ y.cls ≠ "java/lang/invoke/VarHandle") (W : Nat) (hrc : rm.cells = 0) (hrs : rm.slots = 0) (hf : rm.frames + 1 ≤ R.frames) (hl : W + (maxL + 11) + rm.locals ≤ R.locals) (hcR : cells ≤ R.cells) (hsR : slots ≤ R.slots) (hsz : Ls.size = c.maxLocals)
    {S : List Value} (hlen : ∀ sig, parseMethodDescriptor y.desc = some sig → argsL.length = sig.parameters.length) (hS : S = argsL.reverse ++ rest) (hW : (rest.map fun v => v.category).sum ≤ W) (hd : decode c.code pc = .ok (.invokestatic index, 3)) :
    ∃ T' : State, Stand p l e R s m args below meth c T' locs cells slots ∧ T'.heap = h ∧ ∀ t, Steps p.tables e below (T'.setTop (mkF m (pc + 3) Ls (v :: rest))) t → Steps p.tables e below (T.setTop (mkF m pc Ls S)) t := by
  obtain ⟨T', v', L, X', ⟨rfl, rfl, hh⟩, st⟩ := callC X hx hZ eT argsL rest hM hown w1 w2 w3 w4 hy W hf hl (by rw [hrc]; exact hcR) (by rw [hrs]; exact hsR) hsz hlen hS hW hd
  rw [hrc, hrs, List.append_nil] at X'
  exact ⟨T', X', hh, st⟩
theorem callV (X : Stand p l e R s m args below meth c T locs cells slots) (hx : p.tables.exec = Jvm.exec) (hZ : Z.Warmed39 s.vm) (eT : T.heap = h) {own K : String} {index : Nat} {y : MethodName} {bytes : ByteArray} {maxL : Nat} {ret : Option FieldType} {rm : Room} {Q : Option Value → Heap → List Loc → Prop}
    (b : Addr) (argsL rest : List Value) (hM : Con l Z y bytes maxL ret rm (Value.ref b :: argsL).toArray h Q) (hown : s.vm.findClass own = some m.cls) (E : Exa Z h b K) (w1 : (Cond.methodLink own index y).before a0 Z = true) (w2 : (Cond.declares y).before a0 Z = true) (w3 : (Cond.selects K y y).before a0 Z = true) (w4 : (Cond.instanceMethod y).before a0 Z = true) (w5 : (Cond.initialized y.cls).before a0 Z = true) (w6 : (Cond.code y bytes maxL ret).before a0 Z = true)
    (hy : y.cls ≠ "java/lang/invoke/MethodHandle" ∧ y.cls ≠ "java/lang/invoke/VarHandle") (W : Nat) (hf : rm.frames + 1 ≤ R.frames) (hl : W + (maxL + 11) + rm.locals ≤ R.locals) (hcR : cells + rm.cells ≤ R.cells) (hsR : slots + rm.slots ≤ R.slots) (hsz : Ls.size = c.maxLocals)
    {S : List Value} (hlen : ∀ sig, parseMethodDescriptor y.desc = some sig → argsL.length = sig.parameters.length) (hS : S = argsL.reverse ++ .ref b :: rest) (hW : (rest.map fun v => v.category).sum ≤ W) (hd : decode c.code pc = .ok (.invokevirtual index, 3)) :
    ∃ (T' : State) (v : Option Value) (L : List Loc), Stand p l e R s m args below meth c T' (locs ++ L) (cells + rm.cells) (slots + rm.slots) ∧ Q v T'.heap L ∧ ∀ t, Steps p.tables e below (T'.setTop (mkF m (pc + 3) Ls (v.toList ++ rest))) t → Steps p.tables e below (T.setTop (mkF m pc Ls S)) t := by
  obtain ⟨cB, kB, q1, q2, q3⟩ := isOf hZ eT E
  obtain ⟨v, _, ⟨T', L', k', n'⟩, -, X', ⟨L, hQ, l', y', z'⟩, st⟩ := X.virtualBack hx (y := y) (z := y) hown (mvT hZ w1) (mvT hZ w2) (notFace_of_selects (args := #[]) (mvT hZ w3)) (mvT hZ w3) (mvT hZ w4) hy (backOf (W := W) (hM []) hZ w6 w5 hf hl) q1 q3 (g := mkF m pc Ls S) rfl hsz (Steps.refl _) (argsL := argsL) (rest := rest) hlen hS (by show 2 * 0 + _ ≤ _; rw [Nat.mul_zero, Nat.zero_add]; exact hW) hd (fun _ _ => ⟨rfl, eT, hcR, hsR⟩)
  dsimp only [Pt.U, Pt.locs, Pt.cells, Pt.slots] at X' l' y' z' st hQ
  subst l' y' z'
  exact ⟨T', v, L, X', hQ, fun t k => st.trans k⟩
theorem getS (X : Stand p l e R s m args below meth c T locs cells slots) (hx : p.tables.exec = Jvm.exec) (hZ : Z.Warmed39 s.vm) (eT : T.heap = h) {own R0 O n d host : String} {index : Nat} (hown : s.vm.findClass own = some m.cls) (w : (Cond.fieldLink own index R0 n d).before a0 Z = true ∨ (Cond.fieldLinkNest own index R0 n d host).before a0 Z = true) (via : Via Z R0 O n d) {v : Value} (F : Sta Z h O n d v) {S : List Value} (hd : decode c.code pc = .ok (.getstatic index, 3)) :
    ∃ T' : State, Stand p l e R s m args below meth c T' locs cells slots ∧ T'.heap = h ∧ ∀ t, Steps p.tables e below (T'.setTop (mkF m (pc + 3) Ls (v :: S))) t → Steps p.tables e below (T.setTop (mkF m pc Ls S)) t := getS2 (g := mkF m pc Ls S) X hx hZ hown w via eT F rfl hd
theorem getF (X : Stand p l e R s m args below meth c T locs cells slots) (hx : p.tables.exec = Jvm.exec) (hZ : Z.Warmed39 s.vm) (eT : T.heap = h) {own R0 O n d host : String} {index : Nat} (hown : s.vm.findClass own = some m.cls) (w : (Cond.fieldLink own index R0 n d).before a0 Z = true ∨ (Cond.fieldLinkNest own index R0 n d host).before a0 Z = true) (via : Via Z R0 O n d) {a : Addr} {v : Value} (F : Fld Z h a O n d v) {S : List Value} (hd : decode c.code pc = .ok (.getfield index, 3)) :
    ∃ T' : State, Stand p l e R s m args below meth c T' locs cells slots ∧ T'.heap = h ∧ ∀ t, Steps p.tables e below (T'.setTop (mkF m (pc + 3) Ls (v :: S))) t → Steps p.tables e below (T.setTop (mkF m pc Ls (.ref a :: S))) t := Jvm.RoadKit.getF (g := mkF m pc Ls (.ref a :: S)) X hx hZ hown w via eT F rfl rfl hd
end Calls
end Jvm.Own
namespace Jvm.Own
open Sem ClassFile Op Lib Jvm.Stand Jvm.Free Jvm.LawKit Jvm.RoadKit
theorem Ext.refl (h : Heap) : Ext h h := ⟨Nat.le_refl _, fun _ _ q => q⟩
theorem Ext.trans {h0 h h' : Heap} (A : Ext h0 h) (B : Ext h h') : Ext h0 h' := ⟨Nat.le_trans A.1 B.1, fun a c q => B.2 a c (A.2 a c q)⟩
theorem Ext.keep {h0 h h' : Heap} {ws : List Addr} (A : Ext h0 h) (K : Keep h h' ws) (q : ∀ x ∈ ws, h0.size ≤ x) : Ext h0 h' := ⟨Nat.le_trans A.1 K.1, fun a c r => K.2.1 a c (A.2 a c r) fun z => absurd (Array.getElem?_eq_some_iff.mp r).1 (Nat.not_lt.mpr (q a z))⟩
theorem Ext.wr {h0 h h' : Heap} {a : Addr} {sl : Nat} {v : Value} (A : Ext h0 h) (W : Wr h h' a sl v) (q : h0.size ≤ a) : Ext h0 h' := Ext.keep A (Keep.of_wr W) fun x hx => by cases List.mem_singleton.mp hx; exact q
def CA (Z : State) (h : Heap) (a : Addr) (ty : FieldType) (xs : List Int32) : Prop := ∃ k, Arv Z h a k ty (Int32.ofNat xs.length) (xs.map Value.int) (.int 0) ∧ xs.length < 2 ^ 31
theorem CA.ext {Z : State} {h h' : Heap} {a : Addr} {ty : FieldType} {xs : List Int32} (F : CA Z h a ty xs) (E : Ext h h') : CA Z h' a ty xs := by obtain ⟨k, V, q⟩ := F; exact ⟨k, V.ext E, q⟩
theorem CA.keep {Z : State} {h h' : Heap} {a : Addr} {ty : FieldType} {xs : List Int32} {ws : List Addr} (F : CA Z h a ty xs) (K : Keep h h' ws) (n : a ∉ ws) : CA Z h' a ty xs := by obtain ⟨k, V, q⟩ := F; exact ⟨k, V.keep K n, q⟩
theorem CA.other {Z : State} {h h' : Heap} {a b : Addr} {ty : FieldType} {xs : List Int32} {sl : Nat} {v : Value} (F : CA Z h b ty xs) (W : Wr h h' a sl v) (n : b ≠ a) : CA Z h' b ty xs := by obtain ⟨k, V, q⟩ := F; exact ⟨k, V.other W n, q⟩
theorem CA.lt {Z : State} {h : Heap} {a : Addr} {ty : FieldType} {xs : List Int32} (F : CA Z h a ty xs) : a < h.size := by obtain ⟨k, V, q⟩ := F; exact V.lt
theorem ofNat_clamp {n : Nat} (h : n < 2 ^ 31) : (Int32.ofNat n).toNatClampNeg = n := by
  show (Int32.ofNat n).toInt.toNat = n
  rw [Int32.toInt_ofNat_small h]; rfl
theorem CA.len {Z : State} {h : Heap} {a : Addr} {ty : FieldType} {xs : List Int32} (F : CA Z h a ty xs) : ∃ cl, Arr Z h a cl ty ∧ cl.slots.size.toInt32 = Int32.ofNat xs.length := by
  obtain ⟨k, ⟨cl, A, -, S, M, -⟩, q⟩ := F
  exact ⟨cl, A, len_of S M⟩
theorem CA.get {Z : State} {h : Heap} {a : Addr} {ty : FieldType} {xs : List Int32} (F : CA Z h a ty xs) {j : Int32} (h0 : ¬ j < 0) (h1 : j.toNatClampNeg < xs.length) : ∃ cl, Arr Z h a cl ty ∧ ¬ (j < 0 ∨ cl.slots.size ≤ j.toNatClampNeg) ∧ cl.slots[j.toNatClampNeg]? = some (.int (xs.getD j.toNatClampNeg 0)) := by
  obtain ⟨k, ⟨cl, A, -, S, M, H, -⟩, q⟩ := F
  rw [ofNat_clamp q] at S
  refine ⟨cl, A, fun z => z.elim h0 fun z => by omega, ?_⟩
  rw [H _ (by omega)]
  simp [h1]
def LA (Z : State) (h : Heap) (a : Addr) (xs : List Int64) : Prop := ∃ k, Arv Z h a k .long (Int32.ofNat xs.length) (xs.map Value.long) (.long 0) ∧ xs.length < 2 ^ 31
theorem LA.ext {Z : State} {h h' : Heap} {a : Addr} {xs : List Int64} (F : LA Z h a xs) (E : Ext h h') : LA Z h' a xs := by obtain ⟨k, V, q⟩ := F; exact ⟨k, V.ext E, q⟩
theorem LA.keep {Z : State} {h h' : Heap} {a : Addr} {xs : List Int64} {ws : List Addr} (F : LA Z h a xs) (K : Keep h h' ws) (n : a ∉ ws) : LA Z h' a xs := by obtain ⟨k, V, q⟩ := F; exact ⟨k, V.keep K n, q⟩
theorem LA.other {Z : State} {h h' : Heap} {a b : Addr} {xs : List Int64} {sl : Nat} {v : Value} (F : LA Z h b xs) (W : Wr h h' a sl v) (n : b ≠ a) : LA Z h' b xs := by obtain ⟨k, V, q⟩ := F; exact ⟨k, V.other W n, q⟩
theorem LA.lt {Z : State} {h : Heap} {a : Addr} {xs : List Int64} (F : LA Z h a xs) : a < h.size := by obtain ⟨k, V, q⟩ := F; exact V.lt
section Heap
variable {p : Program} {l : Launch} {e : Env} {R : Room} {s : State} {m : MethodId} {args : Array Value} {below : List Frame} {meth : Method} {c : Code} {T : State} {locs : List Loc} {cells slots : Nat} {pc : Nat} {Ls : Array Slot} {S : List Value} {Z : State} {a0 : Array Value} {h : Heap}
theorem newO (X : Stand p l e R s m args below meth c T locs cells slots) (hx : p.tables.exec = Jvm.exec) (hZ : Z.Warmed39 s.vm) (eT : T.heap = h) {own C : String} {index n : Nat} (hown : s.vm.findClass own = some m.cls) (w : (Cond.classLink own index C).before a0 Z = true) (wi : (Cond.instantiable C n).before a0 Z = true) (wz : (Cond.initialized C).before a0 Z = true)
    (hd : decode c.code pc = .ok (.new index, 3)) (hc : cells + 1 ≤ R.cells) (hl : slots + n ≤ R.slots) :
    ∃ (T' : State) (h' : Heap) (b : Addr), Stand p l e R s m args below meth c T' locs (cells + 1) (slots + n) ∧ T'.heap = h' ∧ Ext h h' ∧ b = h.size ∧ Exa Z h' b C ∧ (∀ {O nm d : String} {ty : FieldType}, Laid Z a0 C O nm d → parseFieldDescriptor d = some ty → Fld Z h' b O nm d (defaultValue ty)) ∧
      ∀ t, Steps p.tables e below (T'.setTop (mkF m (pc + 3) Ls (.ref b :: S))) t → Steps p.tables e below (T.setTop (mkF m pc Ls S)) t := by
  obtain ⟨T', h', X', e', E, A, D, -, st⟩ := Jvm.RoadKit.newO X hx hZ hown w wi wz eT (g := mkF m pc Ls S) rfl hd hc hl
  exact ⟨T', h', _, X', e', E, rfl, A, D, st⟩
theorem newA (X : Stand p l e R s m args below meth c T locs cells slots) (hx : p.tables.exec = Jvm.exec) (hZ : Z.Warmed39 s.vm) (eT : T.heap = h) {aty : ArrayType} (ty : FieldType) (hty : newarray.typeOf aty = ty) (hdv : defaultValue ty = .int 0) (w : (Cond.arrayClass ty).before a0 Z = true)
    {z : Int32} (n : Nat) (hz : z = Int32.ofNat n) (hn : n < 2 ^ 26) (hd : decode c.code pc = .ok (.newarray aty, 2)) (hc : cells + 1 ≤ R.cells) (hl : slots + n ≤ R.slots) :
    ∃ (T' : State) (h' : Heap) (b : Addr), Stand p l e R s m args below meth c T' locs (cells + 1) (slots + n) ∧ T'.heap = h' ∧ Ext h h' ∧ b = h.size ∧ CA Z h' b ty (List.replicate n 0) ∧
      ∀ t, Steps p.tables e below (T'.setTop (mkF m (pc + 2) Ls (.ref b :: S))) t → Steps p.tables e below (T.setTop (mkF m pc Ls (.int z :: S))) t := by
  subst hty hz
  have q0 : ¬ Int32.ofNat n < 0 := Int32.ofNat_not_neg (show n < 2 ^ 31 by omega)
  have q1 : (Int32.ofNat n).toNatClampNeg = n := ofNat_clamp (by omega)
  obtain ⟨T', h', k, X', e', E, A, st⟩ := newP X hx hZ w eT (g := mkF m pc Ls (.int (Int32.ofNat n) :: S)) rfl hd rfl q0 (cap := n) (Nat.le_of_eq q1) (by omega) hc hl
  refine ⟨T', h', _, X', e', E, rfl, ⟨k, ?_, by simp; omega⟩, st⟩
  have V := Arv.new A q0
  rw [hdv] at V
  rw [List.length_replicate, List.map_replicate]
  exact V.pad (pad_rep [] (.int 0) n)
theorem stc (X : Stand p l e R s m args below meth c T locs cells slots) (hx : p.tables.exec = Jvm.exec) (hZ : Z.Warmed39 s.vm) (eT : T.heap = h) {a : Addr} {xs : List Int32} (F : CA Z h a .char xs) {j x : Int32} (i : Nat) (hi : j.toNatClampNeg = i) (h0 : ¬ j < 0) (h1 : i < xs.length) (hd : decode c.code pc = .ok (.castore, 1)) :
    ∃ (T' : State) (h' : Heap) (L' : List Loc), Stand p l e R s m args below meth c T' L' cells slots ∧ T'.heap = h' ∧ (∀ n0, Fr n0 locs → n0 ≤ a → Fr n0 L') ∧ Wr h h' a i (.int (nar .char x)) ∧ CA Z h' a .char (xs.set i (nar .char x)) ∧
      ∀ t, Steps p.tables e below (T'.setTop (mkF m (pc + 1) Ls S)) t → Steps p.tables e below (T.setTop (mkF m pc Ls (.int x :: .int j :: .ref a :: S))) t := by
  subst hi
  obtain ⟨k, ⟨cl, A, q1, Sz, M, H, G⟩, q⟩ := F
  have Sz' := Sz
  rw [ofNat_clamp q] at Sz'
  obtain ⟨T', h', X', e', W, st⟩ := stC X hx hZ eT A (j := j) (x := x) (fun z => z.elim h0 fun z => by omega) (g := mkF m pc Ls (.int x :: .int j :: .ref a :: S)) rfl rfl hd
  refine ⟨T', h', _, X', e', fun n0 N g => Fr.snoc X' N g, W, ⟨k, ?_, by simpa using q⟩, st⟩
  have V := Arv.set A q1 Sz M H G (fits_nar_char x) W j.toNatClampNeg rfl (by simpa using h1)
  rw [List.length_set, List.map_set]
  exact V
theorem cal (X : Stand p l e R s m args below meth c T locs cells slots) (hx : p.tables.exec = Jvm.exec) (hZ : Z.Warmed39 s.vm) (eT : T.heap = h) {a : Addr} {xs : List Int32} (F : CA Z h a .char xs) {j : Int32} (v : Int32) (h0 : ¬ j < 0) (h1 : j.toNatClampNeg < xs.length) (hv : xs.getD j.toNatClampNeg 0 = v) (hd : decode c.code pc = .ok (.caload, 1)) {t : State}
    (hr : Steps p.tables e below (T.setTop (mkF m (pc + 1) Ls (.int v :: S))) t) : Steps p.tables e below (T.setTop (mkF m pc Ls (.int j :: .ref a :: S))) t := by
  obtain ⟨cl, A, q1, q2⟩ := F.get h0 h1
  rw [hv] at q2
  exact caload X hx (.int v) hZ eT A q1 q2 hd hr
theorem putF (X : Stand p l e R s m args below meth c T locs cells slots) (hx : p.tables.exec = Jvm.exec) (hZ : Z.Warmed39 s.vm) (eT : T.heap = h) {own R0 O n d host C : String} {index kk : Nat} {ty : FieldType} (hown : s.vm.findClass own = some m.cls) (w : (Cond.fieldLink own index R0 n d).before a0 Z = true ∨ (Cond.fieldLinkNest own index R0 n d host).before a0 Z = true) (via : Via Z R0 O n d)
    {a : Addr} {v old : Value} (F : Fld Z h a O n d old) (E : Exa Z h a C) (L : (Cond.lays C O n d).before a0 Z = true ∨ ((Cond.laysFinal C O n d).before a0 Z = true ∧ own = O ∧ meth.name = "<init>")) (wi : (Cond.instantiable C kk).before a0 Z = true)
    (hty : parseFieldDescriptor d = some ty) (hn : narrow ty v = v) (hf : fits ty v = true) (hd : decode c.code pc = .ok (.putfield index, 3)) :
    ∃ (T' : State) (h' : Heap) (L' : List Loc), Stand p l e R s m args below meth c T' L' cells slots ∧ T'.heap = h' ∧ (∀ n0, Fr n0 locs → n0 ≤ a → Fr n0 L') ∧ Wr h h' a (Jvm.RoadKit.slotOf Z O n d) v ∧ Fld Z h' a O n d v ∧
      ∀ t, Steps p.tables e below (T'.setTop (mkF m (pc + 3) Ls S)) t → Steps p.tables e below (T.setTop (mkF m pc Ls (v :: .ref a :: S))) t := by
  obtain ⟨T', h', X', e', W, st⟩ := Jvm.RoadKit.putF X hx hZ hown w via eT F E L wi hty hn hf (g := mkF m pc Ls (v :: .ref a :: S)) rfl rfl hd
  exact ⟨T', h', _, X', e', fun n0 N g => Fr.snoc X' N g, W, F.same W, st⟩
theorem initO (X : Stand p l e R s m args below meth c T locs cells slots) (hx : p.tables.exec = Jvm.exec) (hZ : Z.Warmed39 s.vm) (eT : T.heap = h) {own : String} {idx : Nat} (hown : s.vm.findClass own = some m.cls) (w1 : (Cond.methodLink own idx Lib.objectInit).before a0 Z = true) (w2 : (Cond.instanceMethod Lib.objectInit).before a0 Z = true)
    (w3 : (Cond.code Lib.objectInit ⟨#[0xb1]⟩ 1 none).before a0 Z = true) (hsz : Ls.size = c.maxLocals) {a : Addr} (hd : decode c.code pc = .ok (.invokespecial idx, 3)) (hf : 1 ≤ R.frames) (W : Nat) (hW : (S.map fun v => v.category).sum ≤ W) (hl : W + 12 ≤ R.locals) :
    ∃ T' : State, Stand p l e R s m args below meth c T' locs cells slots ∧ T'.heap = h ∧ ∀ t, Steps p.tables e below (T'.setTop (mkF m (pc + 3) Ls S)) t → Steps p.tables e below (T.setTop (mkF m pc Ls (.ref a :: S))) t :=
  Jvm.RoadKit.initO X hx hZ hown w1 w2 w3 eT (g := mkF m pc Ls (.ref a :: S)) rfl hsz rfl hd hf (W := W) (by show 2 * 0 + _ ≤ _; rw [Nat.mul_zero, Nat.zero_add]; exact hW) hl
theorem callIB (X : Stand p l e R s m args below meth c T locs cells slots) (hx : p.tables.exec = Jvm.exec) (hZ : Z.Warmed39 s.vm) (eT : T.heap = h) {own : String} {index : Nat} {y : MethodName} {bytes : ByteArray} {maxL : Nat} {rc rs : Nat} {Q : Option Value → Heap → List Loc → Prop} (hy1 : y.name = "<init>")
    (a : Addr) (argsL rest : List Value) (W : Nat) (hB : Back l R p e below s args y 3 W (fun A b => b = (Value.ref a :: argsL).toArray ∧ A.U.heap = h ∧ A.cells + rc ≤ R.cells ∧ A.slots + rs ≤ R.slots) (fun A _ v B => ∃ L, Q v B.U.heap L ∧ B.locs = A.locs ++ L ∧ B.cells = A.cells + rc ∧ B.slots = A.slots + rs))
    (hown : s.vm.findClass own = some m.cls) (w1 : (Cond.methodLink own index y).before a0 Z = true) (w2 : (Cond.instanceMethod y).before a0 Z = true) (w4 : (Cond.code y bytes maxL none).before a0 Z = true)
    (hy : y.cls ≠ "java/lang/invoke/MethodHandle" ∧ y.cls ≠ "java/lang/invoke/VarHandle") (hcR : cells + rc ≤ R.cells) (hsR : slots + rs ≤ R.slots) (hsz : Ls.size = c.maxLocals)
    {S : List Value} (hlen : ∀ sig, parseMethodDescriptor y.desc = some sig → argsL.length = sig.parameters.length) (hS : S = argsL.reverse ++ .ref a :: rest) (hW : (rest.map fun v => v.category).sum ≤ W) (hd : decode c.code pc = .ok (.invokespecial index, 3)) :
    ∃ (T' : State) (h' : Heap) (v : Option Value) (L M : List Loc), Stand p l e R s m args below meth c T' M (cells + rc) (slots + rs) ∧ T'.heap = h' ∧ (∀ n0, Fr n0 locs → Fr n0 L → Fr n0 M) ∧ Q v h' L ∧ ∀ t, Steps p.tables e below (T'.setTop (mkF m (pc + 3) Ls (v.toList ++ rest))) t → Steps p.tables e below (T.setTop (mkF m pc Ls S)) t := by
  obtain ⟨v, _, ⟨T', L', k', n'⟩, -, X', ⟨L, hQ, l', y', z'⟩, st⟩ := X.specialBack hx (y := y) hy1 hown (mvT hZ w1) (mvT hZ w2) (mvT hZ w4) hy hB (g := mkF m pc Ls S) rfl hsz (Steps.refl _) (a := a) (argsL := argsL) (rest := rest) hlen hS (by show 2 * 0 + _ ≤ _; rw [Nat.mul_zero, Nat.zero_add]; exact hW) hd (fun _ _ => ⟨rfl, eT, hcR, hsR⟩)
  dsimp only [Pt.U, Pt.locs, Pt.cells, Pt.slots] at X' l' y' z' st hQ
  subst l' y' z'
  exact ⟨T', _, v, L, _, X', rfl, fun n0 A B => Fr.app A B, hQ, fun t k => st.trans k⟩
theorem callH (X : Stand p l e R s m args below meth c T locs cells slots) (hx : p.tables.exec = Jvm.exec) (hZ : Z.Warmed39 s.vm) (eT : T.heap = h) {own : String} {index : Nat} {y : MethodName} {bytes : ByteArray} {maxL : Nat} {ret : Option FieldType} {rm : Room} {Q : Option Value → Heap → List Loc → Prop}
    (argsL rest : List Value) (hM : Con l Z y bytes maxL ret rm argsL.toArray h Q) (hown : s.vm.findClass own = some m.cls) (w1 : (Cond.methodLink own index y).before a0 Z = true) (w2 : (Cond.static y).before a0 Z = true) (w3 : (Cond.initialized y.cls).before a0 Z = true) (w4 : (Cond.code y bytes maxL ret).before a0 Z = true)
    (hy : y.cls ≠ "java/lang/invoke/MethodHandle" ∧ y.cls ≠ "java/lang/invoke/VarHandle") (W : Nat) (hf : rm.frames + 1 ≤ R.frames) (hl : W + (maxL + 11) + rm.locals ≤ R.locals) (hcR : cells + rm.cells ≤ R.cells) (hsR : slots + rm.slots ≤ R.slots) (hsz : Ls.size = c.maxLocals)
    {S : List Value} (hlen : ∀ sig, parseMethodDescriptor y.desc = some sig → argsL.length = sig.parameters.length) (hS : S = argsL.reverse ++ rest) (hW : (rest.map fun v => v.category).sum ≤ W) (hd : decode c.code pc = .ok (.invokestatic index, 3)) :
    ∃ (T' : State) (h' : Heap) (v : Option Value) (L M : List Loc), Stand p l e R s m args below meth c T' M (cells + rm.cells) (slots + rm.slots) ∧ T'.heap = h' ∧ (∀ n0, Fr n0 locs → Fr n0 L → Fr n0 M) ∧ Q v h' L ∧ ∀ t, Steps p.tables e below (T'.setTop (mkF m (pc + 3) Ls (v.toList ++ rest))) t → Steps p.tables e below (T.setTop (mkF m pc Ls S)) t := by
  obtain ⟨T', v, L, X', hQ, st⟩ := callC X hx hZ eT argsL rest hM hown w1 w2 w3 w4 hy W hf hl hcR hsR hsz hlen hS hW hd
  exact ⟨T', _, v, L, _, X', rfl, fun n0 A B => Fr.app A B, hQ, st⟩
theorem callVB (X : Stand p l e R s m args below meth c T locs cells slots) (hx : p.tables.exec = Jvm.exec) (hZ : Z.Warmed39 s.vm) (eT : T.heap = h) {own K : String} {index : Nat} {y : MethodName} {Q : Option Value → Heap → List Loc → Prop}
    (b : Addr) (argsL rest : List Value) (W : Nat) (hB : Back l R p e below s args y 3 W (fun A a => a = (Value.ref b :: argsL).toArray ∧ A.U.heap = h ∧ A.cells + 0 ≤ R.cells ∧ A.slots + 0 ≤ R.slots) (fun A _ v B => ∃ L, Q v B.U.heap L ∧ B.locs = A.locs ++ L ∧ B.cells = A.cells + 0 ∧ B.slots = A.slots + 0)) (hQ0 : ∀ v h' L, Q v h' L → L = [] ∧ h' = h)
    (hown : s.vm.findClass own = some m.cls) (E : Exa Z h b K) (w1 : (Cond.methodLink own index y).before a0 Z = true) (w2 : (Cond.declares y).before a0 Z = true) (w3 : (Cond.selects K y y).before a0 Z = true) (w4 : (Cond.instanceMethod y).before a0 Z = true)
    (hy : y.cls ≠ "java/lang/invoke/MethodHandle" ∧ y.cls ≠ "java/lang/invoke/VarHandle") (hcR : cells ≤ R.cells) (hsR : slots ≤ R.slots) (hsz : Ls.size = c.maxLocals)
    {S : List Value} (hlen : ∀ sig, parseMethodDescriptor y.desc = some sig → argsL.length = sig.parameters.length) (hS : S = argsL.reverse ++ .ref b :: rest) (hW : (rest.map fun v => v.category).sum ≤ W) (hd : decode c.code pc = .ok (.invokevirtual index, 3)) :
    ∃ (T' : State) (v : Option Value), Stand p l e R s m args below meth c T' locs cells slots ∧ T'.heap = h ∧ Q v h [] ∧ ∀ t, Steps p.tables e below (T'.setTop (mkF m (pc + 3) Ls (v.toList ++ rest))) t → Steps p.tables e below (T.setTop (mkF m pc Ls S)) t := by
  obtain ⟨cB, kB, q1, q2, q3⟩ := isOf hZ eT E
  obtain ⟨v, _, ⟨T', L', k', n'⟩, -, X', ⟨L, hQ, l', y', z'⟩, st⟩ := X.virtualBack hx (y := y) (z := y) hown (mvT hZ w1) (mvT hZ w2) (notFace_of_selects (args := #[]) (mvT hZ w3)) (mvT hZ w3) (mvT hZ w4) hy hB q1 q3 (g := mkF m pc Ls S) rfl hsz (Steps.refl _) (argsL := argsL) (rest := rest) hlen hS (by show 2 * 0 + _ ≤ _; rw [Nat.mul_zero, Nat.zero_add]; exact hW) hd (fun _ _ => ⟨rfl, eT, hcR, hsR⟩)
  dsimp only [Pt.U, Pt.locs, Pt.cells, Pt.slots] at X' l' y' z' st hQ
  obtain ⟨rfl, hh⟩ := hQ0 _ _ _ hQ
  rw [List.append_nil] at l'
  subst l' y' z'
  rw [hh] at hQ
  exact ⟨T', v, X', hh, hQ, fun t k => st.trans k⟩
end Heap
end Jvm.Own
namespace Jvm.Own
open Sem ClassFile Op Lib Bundle Jvm.Stand Jvm.Free Jvm.LawKit Jvm.RoadKit
abbrev To (p : Program) (e : Env) (below : List Frame) (B T : State) (f : JFrame) : Prop := ∀ t, Steps p.tables e below (T.setTop f) t → Steps p.tables e below B t
section More
variable {p : Program} {l : Launch} {e : Env} {R : Room} {s : State} {m : MethodId} {args : Array Value} {below : List Frame} {meth : Method} {c : Code} {T : State} {locs : List Loc} {cells slots : Nat} {pc : Nat} {Ls : Array Slot} {Z : State} {a0 : Array Value} {h : Heap}
theorem nfOf {K : String} {y y0 : MethodName} (hc : y0.cls = y.cls) (w : (Cond.selects K y0 y0).before a0 Z = true) : NotFace Z y := fun r0 h0 => by
  obtain ⟨c2, r2, m2, q1, q2, q3, q4, kP, hkP, hkPi⟩ := Cond.selects_spec w
  have e1 := findClass_of_methodNamed h0
  have e2 := findClass_of_methodNamed q3
  rw [hc] at e2
  have e3 : r0.cls = m2.cls := Option.some.inj (e1.symm.trans e2)
  exact ⟨kP, by rw [e3]; exact hkP, hkPi⟩
theorem callVHO (X : Stand p l e R s m args below meth c T locs cells slots) (hx : p.tables.exec = Jvm.exec) (hZ : Z.Warmed39 s.vm) (eT : T.heap = h) {own K K0 : String} {index : Nat} {y z y0 : MethodName} {bytes : ByteArray} {maxL : Nat} {ret : Option FieldType} {rm : Room} {ov : Option Value}
    (b : Addr) (argsL rest : List Value) (hM : Con l Z z bytes maxL ret rm (Value.ref b :: argsL).toArray h (fun v h' L => v = ov ∧ L = [] ∧ h' = h)) (hown : s.vm.findClass own = some m.cls) (E : Exa Z h b K) (w1 : (Cond.methodLink own index y).before a0 Z = true) (w2 : (Cond.declares y).before a0 Z = true) (w0 : (Cond.selects K0 y0 y0).before a0 Z = true) (hc0 : y0.cls = y.cls) (w3 : (Cond.selects K y z).before a0 Z = true) (w4 : (Cond.instanceMethod z).before a0 Z = true) (w5 : (Cond.initialized z.cls).before a0 Z = true) (w6 : (Cond.code z bytes maxL ret).before a0 Z = true)
    (hy : y.cls ≠ "java/lang/invoke/MethodHandle" ∧ y.cls ≠ "java/lang/invoke/VarHandle") (W : Nat) (hrc : rm.cells = 0) (hrs : rm.slots = 0) (hf : rm.frames + 1 ≤ R.frames) (hl : W + (maxL + 11) + rm.locals ≤ R.locals) (hcR : cells ≤ R.cells) (hsR : slots ≤ R.slots) (hsz : Ls.size = c.maxLocals)
    {S : List Value} (hlen : ∀ sig, parseMethodDescriptor y.desc = some sig → argsL.length = sig.parameters.length) (hS : S = argsL.reverse ++ .ref b :: rest) (hW : (rest.map fun v => v.category).sum ≤ W) (hd : decode c.code pc = .ok (.invokevirtual index, 3)) :
    ∃ T' : State, Stand p l e R s m args below meth c T' locs cells slots ∧ T'.heap = h ∧ ∀ t, Steps p.tables e below (T'.setTop (mkF m (pc + 3) Ls (ov.toList ++ rest))) t → Steps p.tables e below (T.setTop (mkF m pc Ls S)) t := by
  obtain ⟨cB, kB, q1, q2, q3⟩ := isOf hZ eT E
  obtain ⟨v, _, ⟨T', L', k', n'⟩, -, X', ⟨L, ⟨hv, hL, hh⟩, l', y', z'⟩, st⟩ := X.virtualBack hx (y := y) (z := z) hown (mvT hZ w1) (mvT hZ w2) (nfOf (a0 := #[]) hc0 (mvT hZ w0)) (mvT hZ w3) (mvT hZ w4) hy (backOf (W := W) (Q := fun v h' L => v = ov ∧ L = [] ∧ h' = h) (hM []) hZ w6 w5 hf hl) q1 q3 (g := mkF m pc Ls S) rfl hsz (Steps.refl _) (argsL := argsL) (rest := rest) hlen hS (by show 2 * 0 + _ ≤ _; rw [Nat.mul_zero, Nat.zero_add]; exact hW) hd (fun _ _ => ⟨rfl, eT, by rw [hrc]; exact hcR, by rw [hrs]; exact hsR⟩)
  dsimp only [Pt.U, Pt.locs, Pt.cells, Pt.slots] at X' l' y' z' st hh
  subst hv hL l' y' z'
  rw [hrc, hrs, List.append_nil] at X'
  exact ⟨T', X', hh, fun t k => st.trans k⟩
def NS (h : Heap) (x : Addr) : Prop := ∀ c : Cell, h[x]? = some c → c.vm.isStatics = false
theorem ns_ca {x : Addr} {ty : FieldType} {xs : List Int32} (F : CA Z h x ty xs) : NS h x := fun c hc => by
  obtain ⟨_, ⟨cl, A, -⟩, -⟩ := F
  cases hc.symm.trans A.1
  have q := A.2.1.1
  cases hv : c.vm <;> first | rfl | exact absurd hv (q _)
theorem sta_keepG {h' : Heap} {C n d : String} {v : Value} {ws : List Addr} (F : Sta Z h C n d v) (Kp : Keep h h' ws) (q : ∀ x ∈ ws, NS h x) : Sta Z h' C n d v := by
  obtain ⟨cf, i, k, f, st, cell, h1, h2, h3, h4, h5, h6, h7⟩ := F
  exact ⟨cf, i, k, f, st, cell, h1, h2, h3, h4, Kp.2.1 st cell h5 (fun hm => by have := q st hm cell h5; rw [h6] at this; cases this), h6, h7⟩
theorem bal (X : Stand p l e R s m args below meth c T locs cells slots) (hx : p.tables.exec = Jvm.exec) (hZ : Z.Warmed39 s.vm) (eT : T.heap = h) {S : List Value} {a : Addr} {xs : List Int32} (F : CA Z h a .byte xs) {j : Int32} (v : Int32) (h0 : ¬ j < 0) (h1 : j.toNatClampNeg < xs.length) (hv : xs.getD j.toNatClampNeg 0 = v) (hd : decode c.code pc = .ok (.baload, 1)) {t : State}
    (hr : Steps p.tables e below (T.setTop (mkF m (pc + 1) Ls (.int v :: S))) t) : Steps p.tables e below (T.setTop (mkF m pc Ls (.int j :: .ref a :: S))) t := by
  obtain ⟨cl, A, q1, q2⟩ := F.get h0 h1
  rw [hv] at q2
  exact baload X hx (.int v) hZ eT A q1 q2 hd hr
theorem cpel1 (X : Stand p l e R s m args below meth c T locs cells slots) (hx : p.tables.exec = Jvm.exec) (hZ : Z.Warmed39 s.vm) (eT : T.heap = h) {a b : Addr} {xs ys : List Int32} (F : CA Z h a .char xs) (G : CA Z h b .char ys) {S : List Value} {I : Int} (i : Nat) (z : Int32) (hI : Int32.ofInt I = z) (hz : z.toNatClampNeg = i) (h0 : ¬ z < 0) (h1 : i < ys.length) (h2 : i < xs.length) (v : Int32) (hv : xs.getD i 0 = v) (hn : nar .char v = v) (la : Ls[0]? = some (.val (.ref a)))
    (d1 : decode c.code pc = .ok (.dup, 1)) (d2 : decode c.code (pc + 1) = .ok (.iconst I, 1)) (d3 : decode c.code (pc + 1 + 1) = .ok (.aload_n 0, 1)) (d4 : decode c.code (pc + 1 + 1 + 1) = .ok (.iconst I, 1)) (d5 : decode c.code (pc + 1 + 1 + 1 + 1) = .ok (.caload, 1)) (d6 : decode c.code (pc + 1 + 1 + 1 + 1 + 1) = .ok (.castore, 1)) :
    ∃ (T' : State) (h' : Heap) (L' : List Loc), Stand p l e R s m args below meth c T' L' cells slots ∧ T'.heap = h' ∧ (∀ n0, Fr n0 locs → n0 ≤ b → Fr n0 L') ∧ Wr h h' b i (.int v) ∧ CA Z h' b .char (ys.set i v) ∧ ∀ t, Steps p.tables e below (T'.setTop (mkF m (pc + 1 + 1 + 1 + 1 + 1 + 1) Ls (.ref b :: S))) t → Steps p.tables e below (T.setTop (mkF m pc Ls (.ref b :: S))) t := by
  obtain ⟨T', h', L', X', e', N, W, V, st⟩ := stc (S := .ref b :: S) (x := v) (j := z) X hx hZ eT G i hz h0 h1 d6
  rw [hn] at W V
  exact ⟨T', h', L', X', e', N, W, V, fun t k => dup X hx d1 rfl (iconst X hx z d2 hI (aloadN X hx d3 la rfl (iconst X hx z d4 hI (cal X hx hZ eT F v h0 (by rw [hz]; exact h2) (by rw [hz]; exact hv) d5 (st t k)))))⟩
theorem cpel2 (X : Stand p l e R s m args below meth c T locs cells slots) (hx : p.tables.exec = Jvm.exec) (hZ : Z.Warmed39 s.vm) (eT : T.heap = h) {a b : Addr} {xs ys : List Int32} (F : CA Z h a .char xs) (G : CA Z h b .char ys) {S : List Value} {I : Int} (i : Nat) (z : Int32) (hI : (Int8.ofInt I).toInt32 = z) (hz : z.toNatClampNeg = i) (h0 : ¬ z < 0) (h1 : i < ys.length) (h2 : i < xs.length) (v : Int32) (hv : xs.getD i 0 = v) (hn : nar .char v = v) (la : Ls[0]? = some (.val (.ref a)))
    (d1 : decode c.code pc = .ok (.dup, 1)) (d2 : decode c.code (pc + 1) = .ok (.bipush I, 2)) (d3 : decode c.code (pc + 1 + 2) = .ok (.aload_n 0, 1)) (d4 : decode c.code (pc + 1 + 2 + 1) = .ok (.bipush I, 2)) (d5 : decode c.code (pc + 1 + 2 + 1 + 2) = .ok (.caload, 1)) (d6 : decode c.code (pc + 1 + 2 + 1 + 2 + 1) = .ok (.castore, 1)) :
    ∃ (T' : State) (h' : Heap) (L' : List Loc), Stand p l e R s m args below meth c T' L' cells slots ∧ T'.heap = h' ∧ (∀ n0, Fr n0 locs → n0 ≤ b → Fr n0 L') ∧ Wr h h' b i (.int v) ∧ CA Z h' b .char (ys.set i v) ∧ ∀ t, Steps p.tables e below (T'.setTop (mkF m (pc + 1 + 2 + 1 + 2 + 1 + 1) Ls (.ref b :: S))) t → Steps p.tables e below (T.setTop (mkF m pc Ls (.ref b :: S))) t := by
  obtain ⟨T', h', L', X', e', N, W, V, st⟩ := stc (S := .ref b :: S) (x := v) (j := z) X hx hZ eT G i hz h0 h1 d6
  rw [hn] at W V
  exact ⟨T', h', L', X', e', N, W, V, fun t k => dup X hx d1 rfl (bipush X hx z d2 hI (aloadN X hx d3 la rfl (bipush X hx z d4 hI (cal X hx hZ eT F v h0 (by rw [hz]; exact h2) (by rw [hz]; exact hv) d5 (st t k)))))⟩
end More
end Jvm.Own
namespace Jvm.Own
open Sem ClassFile Op Lib Bundle Jvm.Stand Jvm.Free Jvm.LawKit Jvm.RoadKit
def ConH (l : Launch) (Z : State) (EL : List (String × Nat)) (y : MethodName) (bytes : ByteArray) (maxL : Nat) (ret : Option FieldType) (rm : Room) (as' : Array Value) (h0 : Heap) (Q : Option Value → Heap → List Loc → Prop) : Prop :=
  ∀ ws : List Jvm.Cond, MetFree l y (head1 (Jvm.Cond.code y bytes maxL ret :: ws) rm) (fun a U => a = as' ∧ Z.Warmed39 U.vm ∧ U.heap = h0 ∧ CHv Z EL U.vm h0) (fun _ _ _ _ _ => True) (fun _ U o U' => ∃ v L, o = .returned v ∧ Q v U'.heap L ∧ CHr Z EL U.vm U.heap U'.vm U'.heap ∧ ReturnedEndW U o U' L rm.cells rm.slots)
abbrev FinH (p : Program) (e : Env) (below : List Frame) (B0 s Z : State) (EL : List (String × Nat)) (C D : Nat) (Q : Option Value → Heap → List Loc → Prop) : Prop := ∃ s₂ o, Steps p.tables e below B0 s₂ ∧ s₂.status = .running ∧ Ended s₂ below o ∧ ∃ v L, o = .returned v ∧ Q v s₂.heap L ∧ CHr Z EL s.vm s.heap s₂.vm s₂.heap ∧ ReturnedEndW s o s₂ L C D
def Wd (s Z : State) (EL : List (String × Nat)) (own : String) (k : ClassId) (vm : Vm) (h : Heap) : Prop := (∃ n, s.Since vm n ∧ n ≤ h.size) ∧ Z.Warmed39 vm ∧ vm.findClass own = some k ∧ CHr Z EL s.vm s.heap vm h
section Wd
variable {s Z : State} {EL : List (String × Nat)} {own : String} {k : ClassId} {vm : Vm} {h h' : Heap}
theorem Wd.hZ (D : Wd s Z EL own k vm h) : Z.Warmed39 (s.setVm vm).vm := D.2.1
theorem Wd.hown (D : Wd s Z EL own k vm h) : (s.setVm vm).vm.findClass own = some k := D.2.2.1
theorem Wd.H (D : Wd s Z EL own k vm h) : CHv Z EL vm h := D.2.2.2.1
theorem Wd.start (hZ : Z.Warmed39 s.vm) (hown : s.vm.findClass own = some k) (H : CHv Z EL s.vm s.heap) : Wd s Z EL own k s.vm s.heap := ⟨⟨0, (State.WarmedH.refl s).since 0, Nat.zero_le _⟩, hZ, hown, CHr.refl H⟩
theorem Wd.on (D : Wd s Z EL own k vm h) (A : CHr Z EL vm h vm h') : Wd s Z EL own k vm h' := by
  obtain ⟨⟨n, d1, d2⟩, d3, d4, d5⟩ := D
  exact ⟨⟨n, d1, Nat.le_trans d2 A.2.1⟩, d3, d4, d5.trans A⟩
theorem Wd.ext (D : Wd s Z EL own k vm h) (E : Ext h h') : Wd s Z EL own k vm h' := D.on (CHr.ext E D.H)
theorem Wd.wr {a : Addr} {sl : Nat} {v : Value} (D : Wd s Z EL own k vm h) (W : Wr h h' a sl v) (S : Safe Z EL vm h a) : Wd s Z EL own k vm h' := D.on (CHr.wr W S D.H)
theorem Wd.keep {ws : List Addr} (D : Wd s Z EL own k vm h) (K : Keep h h' ws) (S : ∀ x ∈ ws, Safe Z EL vm h x) : Wd s Z EL own k vm h' := D.on (CHr.keep K S D.H)
end Wd
theorem safe_null {Z : State} {EL : List (String × Nat)} {vm : Vm} {h : Heap} {x : Addr} (hal : Z.vm.Alike vm) (E : Exa Z h x "java/lang/String") (F : Fld Z h x "java/lang/String" "value" "[B" .null) : Safe Z EL vm h x := fun B => by
  obtain ⟨p, hp, u, a, hb, q, hqa, FS, hy⟩ := B
  obtain ⟨cS, ⟨⟨s1, s2, s3, ⟨cv, kv, iv, s4, s4'⟩, ⟨cc, kc, ic, s5, s5'⟩, s6, s7, s8, s9, s10, s11, s12, s13, s14, s15, s16⟩, hfS, hcS⟩, ⟨kS, k1, k2, k3⟩, hB, hbyt⟩ := FS
  obtain ⟨cell, cf, k, i, f, f1, f2, f3, f4, f5, f6, f7⟩ := F
  rcases hy with rfl | rfl
  · have e1 : cell = q.sC := Option.some.inj (f1.symm.trans s1)
    subst e1
    obtain ⟨kv', z4⟩ := ff_back (U := Wst Z vm h) hal s4
    cases z4.symm.trans f2
    cases s8.symm.trans f7
  · have e1 : cell = q.SA := Option.some.inj (f1.symm.trans s10)
    obtain ⟨cE, kE, g1, g2, g3, g4, g5⟩ := E
    have e2 : cE = q.SA := Option.some.inj (g1.symm.trans s10)
    subst e2
    have hBZ : Z.vm.findClass "[B" = some q.SA.cls := by rw [← hal.findClass]; exact hB
    obtain ⟨ka, ha1, ha2⟩ := Vm.findClass_spec g2
    obtain ⟨kb, hb1, hb2⟩ := Vm.findClass_spec hBZ
    cases ha1.symm.trans hb1
    exact absurd (ha2.symm.trans hb2) (by decide)
theorem CA.safe {Z : State} {EL : List (String × Nat)} {vm : Vm} {h : Heap} {a : Addr} {ty : FieldType} {xs : List Int32} (hal : Z.vm.Alike vm) (F : CA Z h a ty xs) (ht : ty ≠ .byte) : Safe Z EL vm h a := by obtain ⟨k, V, -⟩ := F; exact Safe.arv hal V ht
section WEnds
variable {p : Program} {l : Launch} {e : Env} {R : Room} {s : State} {m : MethodId} {args : Array Value} {below : List Frame} {meth : Method} {c : Code} {T : State} {locs : List Loc} {cells slots : Nat} {pc : Nat} {Ls : Array Slot} {Z : State} {a0 : Array Value} {h : Heap} {vm0 : Vm} {EL : List (String × Nat)} {own : String} {B0 : State} {C D : Nat} {rest : List Value} {Q : Option Value → Heap → List Loc → Prop} {k : ClassId}
theorem endW (X : Stand p l e R (s.setVm vm0) m args below meth c T locs cells slots) (hEL : EW Z a0 EL) (eT : T.heap = h) (W : Wd s Z EL own k vm0 h) {v : Option Value} {fs : List Frame} (hW : (s.setVm vm0).WarmedH (T.setFrames fs).vm) (hs : (s.setVm vm0).sameButNew ({ T.setFrames fs with vm := (s.setVm vm0).vm } : State) locs cells slots) (hC : cells ≤ C) (hD : slots ≤ D) :
    CHr Z EL s.vm s.heap (T.setFrames fs).vm (T.setFrames fs).heap ∧ ReturnedEndW s (.returned v) (T.setFrames fs) locs C D := by
  obtain ⟨⟨n, d1, d2⟩, d3, d4, d5⟩ := W
  subst eT
  have q := d1.ended (U := T.setFrames fs) hW d2 hs
  exact ⟨d5.trans (show CHr Z EL vm0 T.heap T.vm T.heap from CHv.at X d3 hEL d5.1), ⟨_, rfl⟩, q.1, q.2.1, q.2.2.mono hC hD⟩
theorem finHN (X : Stand p l e R (s.setVm vm0) m args below meth c T locs cells slots) (hx : p.tables.exec = Jvm.exec) (hEL : EW Z a0 EL) (eT : T.heap = h) (W : Wd s Z EL own k vm0 h) (hlk : meth.locks = false) {ty : FieldType} (hret : meth.sig.returnType = some ty) (ht : ty = .boolean ∨ ty = .byte ∨ ty = .char ∨ ty = .short) {z : Int32} (hd : decode c.code pc = .ok (.ireturn, 1))
    (K : ∀ t, Steps p.tables e below (T.setTop (mkF m pc Ls (.int z :: rest))) t → Steps p.tables e below B0 t) (hC : cells ≤ C) (hD : slots ≤ D) (hQ : Q (some (.int (nar ty z))) T.heap locs) : FinH p e below B0 s Z EL C D Q := by
  obtain ⟨fs, hr, hrun, hended, hW, hsame⟩ := X.leave (v := some (.int (nar ty z))) (fun h => by rw [hret] at h; cases h) hlk
  obtain ⟨r1, r2⟩ := endW X hEL eT W (v := some (.int (nar ty z))) hW hsame hC hD
  exact ⟨_, _, K _ (retN X hx hret ht hd hr), hrun, hended, _, _, rfl, hQ, r1, r2⟩
theorem finHI (X : Stand p l e R (s.setVm vm0) m args below meth c T locs cells slots) (hx : p.tables.exec = Jvm.exec) (hEL : EW Z a0 EL) (eT : T.heap = h) (W : Wd s Z EL own k vm0 h) (hlk : meth.locks = false) (hret : meth.sig.returnType = some .int) {z : Int32} (hd : decode c.code pc = .ok (.ireturn, 1))
    (K : ∀ t, Steps p.tables e below (T.setTop (mkF m pc Ls (.int z :: rest))) t → Steps p.tables e below B0 t) (hC : cells ≤ C) (hD : slots ≤ D) (hQ : Q (some (.int z)) T.heap locs) : FinH p e below B0 s Z EL C D Q := by
  obtain ⟨fs, hr, hrun, hended, hW, hsame⟩ := X.leave (v := some (.int z)) (fun h => by rw [hret] at h; cases h) hlk
  obtain ⟨r1, r2⟩ := endW X hEL eT W (v := some (.int z)) hW hsame hC hD
  exact ⟨_, _, K _ (retI X hx hret hd hr), hrun, hended, _, _, rfl, hQ, r1, r2⟩
theorem finHA (X : Stand p l e R (s.setVm vm0) m args below meth c T locs cells slots) (hx : p.tables.exec = Jvm.exec) (hEL : EW Z a0 EL) (eT : T.heap = h) (W : Wd s Z EL own k vm0 h) (hlk : meth.locks = false) {ty : FieldType} (hret : meth.sig.returnType = some ty) (ht : ty.isReference = true) {v : Value} (hv : v.isRef = true) (hd : decode c.code pc = .ok (.areturn, 1))
    (K : ∀ t, Steps p.tables e below (T.setTop (mkF m pc Ls (v :: rest))) t → Steps p.tables e below B0 t) (hC : cells ≤ C) (hD : slots ≤ D) (hQ : Q (some v) T.heap locs) : FinH p e below B0 s Z EL C D Q := by
  obtain ⟨fs, hr, hrun, hended, hW, hsame⟩ := X.leave (v := some v) (fun h => by rw [hret] at h; cases h) hlk
  obtain ⟨r1, r2⟩ := endW X hEL eT W (v := some v) hW hsame hC hD
  exact ⟨_, _, K _ (retOut X hx hret (narrow_ref ht hv) (Or.inr (Or.inr (Or.inr (Or.inr ⟨rfl, ht, hv⟩)))) hd hr), hrun, hended, _, _, rfl, hQ, r1, r2⟩
theorem finHV (X : Stand p l e R (s.setVm vm0) m args below meth c T locs cells slots) (hx : p.tables.exec = Jvm.exec) (hEL : EW Z a0 EL) (eT : T.heap = h) (W : Wd s Z EL own k vm0 h) (hlk : meth.locks = false) (hret : meth.sig.returnType = none) (hd : decode c.code pc = .ok (.return_, 1))
    (K : ∀ t, Steps p.tables e below (T.setTop (mkF m pc Ls ([]))) t → Steps p.tables e below B0 t) (hC : cells ≤ C) (hD : slots ≤ D) (hQ : Q (none) T.heap locs) : FinH p e below B0 s Z EL C D Q := by
  obtain ⟨fs, hr, hrun, hended, hW, hsame⟩ := X.leave (v := none) (fun _ => rfl) hlk
  obtain ⟨r1, r2⟩ := endW X hEL eT W (v := none) hW hsame hC hD
  exact ⟨_, _, K _ (X.returnOut hx hret hd hr), hrun, hended, _, _, rfl, hQ, r1, r2⟩
end WEnds
section WCalls
variable {p : Program} {l : Launch} {e : Env} {R : Room} {s : State} {m : MethodId} {args : Array Value} {below : List Frame} {meth : Method} {c : Code} {T : State} {locs : List Loc} {cells slots : Nat} {pc : Nat} {Ls : Array Slot} {Z : State} {a0 : Array Value} {h : Heap} {vm0 : Vm} {EL : List (String × Nat)} {own : String}
theorem Wd.back {vm1 : Vm} {n1 : Nat} {h' : Heap} {k : ClassId} (W : Wd s Z EL own k vm0 h) (hS : (s.setVm vm0).Since vm1 h'.size) (hg : h.size ≤ h'.size) (A : CHr Z EL vm0 h vm1 h') : Wd s Z EL own k vm1 h' := by
  obtain ⟨⟨n, d1, d2⟩, d3, d4, d5⟩ := W
  exact ⟨⟨h'.size, d1.trans hS (Nat.le_trans d2 hg), Nat.le_refl _⟩, State.Warmed39.trans (t := s.setVm vm0) d3 hS.1, (hS.1.alike.findClass _ _).trans d4, d5.trans A⟩
theorem callHW (X : Stand p l e R (s.setVm vm0) m args below meth c T locs cells slots) (hx : p.tables.exec = Jvm.exec) (hEL : EW Z a0 EL) (Wd0 : Wd s Z EL own m.cls vm0 h) (eT : T.heap = h) {index : Nat} {y : MethodName} {bytes : ByteArray} {maxL : Nat} {ret : Option FieldType} {rm : Room} {Q : Option Value → Heap → List Loc → Prop}
    (argsL rest : List Value) (hM : ConH l Z EL y bytes maxL ret rm argsL.toArray h Q) (w1 : (Cond.methodLink own index y).before a0 Z = true) (w2 : (Cond.static y).before a0 Z = true) (w3 : (Cond.initialized y.cls).before a0 Z = true) (w4 : (Cond.code y bytes maxL ret).before a0 Z = true)
    (hy : y.cls ≠ "java/lang/invoke/MethodHandle" ∧ y.cls ≠ "java/lang/invoke/VarHandle") (W : Nat) (hf : rm.frames + 1 ≤ R.frames) (hl : W + (maxL + 11) + rm.locals ≤ R.locals) (hcR : cells + rm.cells ≤ R.cells) (hsR : slots + rm.slots ≤ R.slots) (hsz : Ls.size = c.maxLocals)
    {S : List Value} (hlen : ∀ sig, parseMethodDescriptor y.desc = some sig → argsL.length = sig.parameters.length) (hS : S = argsL.reverse ++ rest) (hW : (rest.map fun v => v.category).sum ≤ W) (hd : decode c.code pc = .ok (.invokestatic index, 3)) :
    ∃ (vm1 : Vm) (T' : State) (h' : Heap) (v : Option Value) (L M : List Loc), Stand p l e R (s.setVm vm1) m args below meth c T' M (cells + rm.cells) (slots + rm.slots) ∧ T'.heap = h' ∧ Wd s Z EL own m.cls vm1 h' ∧ h.size ≤ h'.size ∧ (∀ n0, Fr n0 locs → Fr n0 L → Fr n0 M) ∧ Q v h' L ∧ ∀ t, Steps p.tables e below (T'.setTop (mkF m (pc + 3) Ls (v.toList ++ rest))) t → Steps p.tables e below (T.setTop (mkF m pc Ls S)) t := by
  subst eT
  obtain ⟨v, _, ⟨T', L', k', n'⟩, -, X', hS', hg, ⟨L, hQ, l', y', z', hC⟩, st⟩ := callSS X hx (y := y) Wd0.hown (mvT Wd0.hZ w1) (mvT Wd0.hZ w2) (mvT Wd0.hZ w3) (mvT Wd0.hZ w4) hy (backOfSH (W := W) (hM []) Wd0.2.1 w4 w3 hf hl hEL Wd0.H) (g := mkF m pc Ls S) rfl hsz (argsL := argsL) (rest := rest) hlen hS (by show 2 * 0 + _ ≤ _; rw [Nat.mul_zero, Nat.zero_add]; exact hW) hd (fun _ _ => ⟨rfl, rfl, hcR, hsR⟩)
  dsimp only [Pt.U, Pt.locs, Pt.cells, Pt.slots] at X' l' y' z' st hQ hS' hg hC
  subst l' y' z'
  exact ⟨T'.vm, T', _, v, L, _, X', rfl, Wd.back (n1 := 0) Wd0 hS' hg hC, hg, fun n0 A B => Fr.app A B, hQ, fun t k => st.trans k⟩
theorem callIW (X : Stand p l e R (s.setVm vm0) m args below meth c T locs cells slots) (hx : p.tables.exec = Jvm.exec) (hEL : EW Z a0 EL) (Wd0 : Wd s Z EL own m.cls vm0 h) (eT : T.heap = h) {index : Nat} {y : MethodName} {bytes : ByteArray} {maxL : Nat} {rm : Room} {Q : Option Value → Heap → List Loc → Prop} (hy1 : y.name = "<init>")
    (a : Addr) (argsL rest : List Value) (hM : ConH l Z EL y bytes maxL none rm (Value.ref a :: argsL).toArray h Q) (w1 : (Cond.methodLink own index y).before a0 Z = true) (w2 : (Cond.instanceMethod y).before a0 Z = true) (w3 : (Cond.initialized y.cls).before a0 Z = true) (w4 : (Cond.code y bytes maxL none).before a0 Z = true)
    (hy : y.cls ≠ "java/lang/invoke/MethodHandle" ∧ y.cls ≠ "java/lang/invoke/VarHandle") (W : Nat) (hf : rm.frames + 1 ≤ R.frames) (hl : W + (maxL + 11) + rm.locals ≤ R.locals) (hcR : cells + rm.cells ≤ R.cells) (hsR : slots + rm.slots ≤ R.slots) (hsz : Ls.size = c.maxLocals)
    {S : List Value} (hlen : ∀ sig, parseMethodDescriptor y.desc = some sig → argsL.length = sig.parameters.length) (hS : S = argsL.reverse ++ .ref a :: rest) (hW : (rest.map fun v => v.category).sum ≤ W) (hd : decode c.code pc = .ok (.invokespecial index, 3)) :
    ∃ (vm1 : Vm) (T' : State) (h' : Heap) (v : Option Value) (L M : List Loc), Stand p l e R (s.setVm vm1) m args below meth c T' M (cells + rm.cells) (slots + rm.slots) ∧ T'.heap = h' ∧ Wd s Z EL own m.cls vm1 h' ∧ h.size ≤ h'.size ∧ (∀ n0, Fr n0 locs → Fr n0 L → Fr n0 M) ∧ Q v h' L ∧ ∀ t, Steps p.tables e below (T'.setTop (mkF m (pc + 3) Ls (v.toList ++ rest))) t → Steps p.tables e below (T.setTop (mkF m pc Ls S)) t := by
  subst eT
  obtain ⟨v, _, ⟨T', L', k', n'⟩, -, X', hS', hg, ⟨L, hQ, l', y', z', hC⟩, st⟩ := X.specialBackS hx (y := y) hy1 Wd0.hown (mvT Wd0.hZ w1) (mvT Wd0.hZ w2) (mvT Wd0.hZ w4) hy (backOfSH (W := W) (hM []) Wd0.2.1 w4 w3 hf hl hEL Wd0.H) (g := mkF m pc Ls S) rfl hsz (Steps.refl _) (a := a) (argsL := argsL) (rest := rest) hlen hS (by show 2 * 0 + _ ≤ _; rw [Nat.mul_zero, Nat.zero_add]; exact hW) hd (fun _ _ => ⟨rfl, rfl, hcR, hsR⟩)
  dsimp only [Pt.U, Pt.locs, Pt.cells, Pt.slots] at X' l' y' z' st hQ hS' hg hC
  subst l' y' z'
  exact ⟨T'.vm, T', _, v, L, _, X', rfl, Wd.back (n1 := 0) Wd0 hS' hg hC, hg, fun n0 A B => Fr.app A B, hQ, fun t k => st.trans k⟩
theorem ldcT (X : Stand p l e R (s.setVm vm0) m args below meth c T locs cells slots) (hx : p.tables.exec = Jvm.exec) (hEL : EW Z a0 EL) (Wd0 : Wd s Z EL own m.cls vm0 h) (eT : T.heap = h) {index : Nat} (text : String) (w : (Cond.stringLink own index text).before a0 Z = true) (wS : ∀ a ∈ Bundle.stringAtoms, a.before a0 Z = true) (hmem : (own, index) ∈ EL)
    (cs : List Int32) (ht : ∀ c ∈ text.toList, c.toNat < 256) (hcs : text.toList.map (fun c => Value.int (Jvm.Lit.byteI c.toNat.toUInt16)) = (cs.map fun c => c.toInt8.toInt32).map Value.int) (n : Nat) (hn : 4 * text.toList.length ≤ n) (hbig : n ≤ 536870912) (hlen : cs.length < 2 ^ 31) (hc : cells + 2 ≤ R.cells) (hl : slots + (n + 4) ≤ R.slots) {S : List Value} (hd : decode c.code pc = .ok (.ldc index, 2)) :
    ∃ (vm1 : Vm) (T' : State) (h' : Heap) (a b : Addr) (k : ClassId), Stand p l e R (s.setVm vm1) m args below meth c T' locs (cells + 2) (slots + (n + 4)) ∧ T'.heap = h' ∧ Ext h h' ∧ Wd s Z EL own m.cls vm1 h' ∧ (∀ x, x < h.size → Safe Z EL vm0 h x → Safe Z EL vm1 h' x) ∧ Exa Z h' a "java/lang/String" ∧ Fld Z h' a "java/lang/String" "value" "[B" (.ref b) ∧ Fld Z h' a "java/lang/String" "coder" "B" (.int 0) ∧ Arv Z h' b k .byte (Int32.ofNat cs.length) ((cs.map fun c => c.toInt8.toInt32).map Value.int) (.int 0) ∧ (∀ x, Safe Z EL vm1 h' x → x ≠ a ∧ x ≠ b) ∧
      ∀ t, Steps p.tables e below (T'.setTop (mkF m (pc + 2) Ls (.ref a :: S))) t → Steps p.tables e below (T.setTop (mkF m pc Ls S)) t := by
  obtain ⟨⟨k0, d1, d2⟩, d3, d4, d5⟩ := Wd0
  obtain ⟨a, T', h', k1, b, k, X', e', E, hS, hk, hW, hf, r1, r2, r3, r4, -, -, hC, -, hne, st⟩ := ldcCH X hx d3 d4 w wS eT d1 d2 hEL hmem d5.1 (vs := (cs.map fun c => c.toInt8.toInt32).map Value.int) (z := Int32.ofNat cs.length) ⟨ht, hcs⟩ (Int32.ofNat_not_neg hlen) (by rw [ofNat_clamp hlen]; simp) (g := mkF m pc Ls S) rfl hd hn hbig hc hl
  exact ⟨T'.vm, T', h', a, b, k, X', e', E, ⟨⟨k1, hS, hk⟩, hW, hf, d5.trans hC⟩, fun x q r => hC.safe q r, r1, r3, r2, r4, hne, st⟩
end WCalls
end Jvm.Own
namespace Jvm.Own
open Sem ClassFile Op Lib Bundle Jvm.Stand Jvm.Free Jvm.LawKit Jvm.RoadKit
theorem getD_mem {xs : List Int32} {i : Nat} (h : i < xs.length) : xs.getD i 0 ∈ xs := by
  rw [show xs.getD i 0 = xs[i] by simp [h]]; exact List.getElem_mem h
theorem fI1 : ∀ j : Nat, j < 32 → Int32.ofInt (j : Int) = Int32.ofNat j := by decide
theorem fI2 : ∀ j : Nat, j < 32 → (Int8.ofInt (j : Int)).toInt32 = Int32.ofNat j := by decide
def cpy (xs ys : List Int32) (i0 : Nat) : Nat → List Int32
  | 0 => ys
  | k + 1 => (cpy xs ys i0 k).set (i0 + k) (xs.getD (i0 + k) 0)
theorem cpy_len (xs ys : List Int32) (i0 : Nat) : ∀ k, (cpy xs ys i0 k).length = ys.length
  | 0 => rfl
  | k + 1 => by rw [cpy, List.length_set]; exact cpy_len xs ys i0 k
def tby (ws : List Int) (ys : List Int32) (i0 : Nat) : Nat → List Int32
  | 0 => ys
  | k + 1 => (tby ws ys i0 k).set (i0 + k) (nar .char (Int8.ofInt (ws.getD (i0 + k) 0)).toInt32)
theorem tby_len (ws : List Int) (ys : List Int32) (i0 : Nat) : ∀ k, (tby ws ys i0 k).length = ys.length
  | 0 => rfl
  | k + 1 => by rw [tby, List.length_set]; exact tby_len ws ys i0 k
section Runs
variable {p : Program} {l : Launch} {e : Env} {R : Room} {s : State} {m : MethodId} {args : Array Value} {below : List Frame} {meth : Method} {c : Code} {T : State} {locs : List Loc} {cells slots : Nat} {pc : Nat} {Ls : Array Slot} {Z : State} {a0 : Array Value} {h : Heap}
abbrev CpD1 (c : ByteArray) (pc k : Nat) : Prop := ∀ j, j < k → decode c (pc + 6 * j) = .ok (.dup, 1) ∧ decode c (pc + 6 * j + 1) = .ok (.iconst ((0 + j : Nat) : Int), 1) ∧ decode c (pc + 6 * j + 1 + 1) = .ok (.aload_n 0, 1) ∧ decode c (pc + 6 * j + 1 + 1 + 1) = .ok (.iconst ((0 + j : Nat) : Int), 1) ∧ decode c (pc + 6 * j + 1 + 1 + 1 + 1) = .ok (.caload, 1) ∧ decode c (pc + 6 * j + 1 + 1 + 1 + 1 + 1) = .ok (.castore, 1)
theorem cpR1 (X : Stand p l e R s m args below meth c T locs cells slots) (hx : p.tables.exec = Jvm.exec) (hZ : Z.Warmed39 s.vm) (eT : T.heap = h) {a b : Addr} {xs ys : List Int32} (F : CA Z h a .char xs) (G : CA Z h b .char ys) (hab : a ≠ b) {S : List Value} {n0 : Nat} (N : Fr n0 locs) (ge : n0 ≤ b) (hn : ∀ v ∈ xs, nar .char v = v) (la : Ls[0]? = some (.val (.ref a))) : ∀ k, 0 + k ≤ xs.length → 0 + k ≤ ys.length → k ≤ 12 → CpD1 c.code pc k →
    ∃ (T' : State) (h' : Heap) (L' : List Loc), Stand p l e R s m args below meth c T' L' cells slots ∧ T'.heap = h' ∧ Fr n0 L' ∧ Keep h h' [b] ∧ CA Z h' b .char (cpy xs ys 0 k) ∧ ∀ t, Steps p.tables e below (T'.setTop (mkF m (pc + 6 * k) Ls (.ref b :: S))) t → Steps p.tables e below (T.setTop (mkF m pc Ls (.ref b :: S))) t
  | 0, _, _, _, _ => ⟨T, h, locs, X, eT, N, Keep.refl h [b], G, fun t k => k⟩
  | k + 1, h1, h2, h3, D => by
    obtain ⟨T', h', L', X', e', N', K', V', st⟩ := cpR1 X hx hZ eT F G hab (S := S) N ge hn la k (by omega) (by omega) (by omega) (fun j hj => D j (by omega))
    obtain ⟨d1, d2, d3, d4, d5, d6⟩ := D k (by omega)
    obtain ⟨T2, h2', L2, X2, e2, N2, W2, V2, st2⟩ := cpel1 (S := S) X' hx hZ e' (F.keep K' (by simpa using hab)) V' (0 + k) (Int32.ofNat (0 + k)) (fI1 (0 + k) (by omega)) (ofNat_clamp (by omega)) (Int32.ofNat_not_neg (by omega)) (by rw [cpy_len]; omega) (by omega) (xs.getD (0 + k) 0) rfl (hn _ (getD_mem (by omega))) la d1 d2 d3 d4 d5 d6
    refine ⟨T2, h2', L2, X2, e2, N2 n0 N' ge, K'.wr W2 (Or.inl (List.mem_singleton.mpr rfl)), V2, fun t q => st t (st2 t ?_)⟩
    rw [show pc + 6 * k + 1 + 1 + 1 + 1 + 1 + 1 = pc + 6 * (k + 1) by omega]; exact q
abbrev TbD1 (c : ByteArray) (pc : Nat) (ws : List Int) (k : Nat) : Prop := ∀ j, j < k → decode c (pc + 5 * j) = .ok (.dup, 1) ∧ decode c (pc + 5 * j + 1) = .ok (.iconst ((0 + j : Nat) : Int), 1) ∧ decode c (pc + 5 * j + 1 + 1) = .ok (.bipush (ws.getD (0 + j) 0), 2) ∧ decode c (pc + 5 * j + 1 + 1 + 2) = .ok (.castore, 1)
theorem tbR1 (X : Stand p l e R s m args below meth c T locs cells slots) (hx : p.tables.exec = Jvm.exec) (hZ : Z.Warmed39 s.vm) (eT : T.heap = h) {b : Addr} {ys : List Int32} (ws : List Int) (G : CA Z h b .char ys) {S : List Value} {n0 : Nat} (N : Fr n0 locs) (ge : n0 ≤ b) : ∀ k, 0 + k ≤ ys.length → 0 + k ≤ 32 → TbD1 c.code pc ws k →
    ∃ (T' : State) (h' : Heap) (L' : List Loc), Stand p l e R s m args below meth c T' L' cells slots ∧ T'.heap = h' ∧ Fr n0 L' ∧ Keep h h' [b] ∧ CA Z h' b .char (tby ws ys 0 k) ∧ ∀ t, Steps p.tables e below (T'.setTop (mkF m (pc + 5 * k) Ls (.ref b :: S))) t → Steps p.tables e below (T.setTop (mkF m pc Ls (.ref b :: S))) t
  | 0, _, _, _ => ⟨T, h, locs, X, eT, N, Keep.refl h [b], G, fun t k => k⟩
  | k + 1, h1, h2, D => by
    obtain ⟨T', h', L', X', e', N', K', V', st⟩ := tbR1 X hx hZ eT ws G (S := S) N ge k (by omega) (by omega) (fun j hj => D j (by omega))
    obtain ⟨d1, d2, d3, d4⟩ := D k (by omega)
    obtain ⟨T2, h2', L2, X2, e2, N2, W2, V2, st2⟩ := stc (S := .ref b :: S) (x := (Int8.ofInt (ws.getD (0 + k) 0)).toInt32) (j := Int32.ofNat (0 + k)) X' hx hZ e' V' (0 + k) (ofNat_clamp (by omega)) (Int32.ofNat_not_neg (by omega)) (by rw [tby_len]; omega) d4
    refine ⟨T2, h2', L2, X2, e2, N2 n0 N' ge, K'.wr W2 (Or.inl (List.mem_singleton.mpr rfl)), V2, fun t q => st t (dup X' hx d1 rfl (iconst X' hx (Int32.ofNat (0 + k)) d2 (fI1 (0 + k) (by omega)) (bipush X' hx _ d3 rfl (st2 t ?_))))⟩
    rw [show pc + 5 * k + 1 + 1 + 2 + 1 = pc + 5 * (k + 1) by omega]; exact q
theorem cst1 (X : Stand p l e R s m args below meth c T locs cells slots) (hx : p.tables.exec = Jvm.exec) (hZ : Z.Warmed39 s.vm) (eT : T.heap = h) {b : Addr} {xs : List Int32} (G : CA Z h b .char xs) {S : List Value} {n0 : Nat} (N : Fr n0 locs) (ge : n0 ≤ b) {y : Int32} {I J o : Int} (i : Nat) (z v : Int32) (hI : Int32.ofInt I = z) (hJ : (Int8.ofInt J).toInt32 = v) (hz : z.toNatClampNeg = i) (h0 : ¬ z < 0) (h1 : i < xs.length) (hn : nar .char v = v) (la : Ls[7]? = some (.val (.ref b))) (ho : 0 ≤ (pc : Int) + o) (hp : ((pc : Int) + o).toNat = pc + 3 + 2 + 1 + 2 + 1)
    (d1 : decode c.code pc = .ok (.ifCond .eq o, 3)) (d2 : decode c.code (pc + 3) = .ok (.aload 7, 2)) (d3 : decode c.code (pc + 3 + 2) = .ok (.iconst I, 1)) (d4 : decode c.code (pc + 3 + 2 + 1) = .ok (.bipush J, 2)) (d5 : decode c.code (pc + 3 + 2 + 1 + 2) = .ok (.castore, 1)) :
    ∃ (T' : State) (h' : Heap) (L' : List Loc), Stand p l e R s m args below meth c T' L' cells slots ∧ T'.heap = h' ∧ Fr n0 L' ∧ Keep h h' [b] ∧ CA Z h' b .char (xs.set i (if y = 0 then xs.getD i 0 else v)) ∧ ∀ t, Steps p.tables e below (T'.setTop (mkF m (pc + 3 + 2 + 1 + 2 + 1) Ls S)) t → Steps p.tables e below (T.setTop (mkF m pc Ls (.int y :: S))) t := by
  by_cases hy : y = 0
  · refine ⟨T, h, locs, X, eT, N, Keep.refl h [b], ?_, fun t k => ifYes X hx _ d1 ((if0 _ _).trans (teq hy).1) ho hp k⟩
    rw [if_pos hy, show xs.set i (xs.getD i 0) = xs by simp [h1]]; exact G
  · obtain ⟨T', h', L', X', e', N', W, V, st⟩ := stc (S := S) (x := v) (j := z) X hx hZ eT G i hz h0 h1 d5
    rw [hn] at W V
    exact ⟨T', h', L', X', e', N' n0 N ge, Keep.of_wr W, by rw [if_neg hy]; exact V, fun t k => ifNo X hx d1 ((if0 _ _).trans (feq hy).1) (aload X hx d2 la rfl (iconst X hx z d3 hI (bipush X hx v d4 hJ (st t k))))⟩
abbrev CpD2 (c : ByteArray) (pc k : Nat) : Prop := ∀ j, j < k → decode c (pc + 8 * j) = .ok (.dup, 1) ∧ decode c (pc + 8 * j + 1) = .ok (.bipush ((6 + j : Nat) : Int), 2) ∧ decode c (pc + 8 * j + 1 + 2) = .ok (.aload_n 0, 1) ∧ decode c (pc + 8 * j + 1 + 2 + 1) = .ok (.bipush ((6 + j : Nat) : Int), 2) ∧ decode c (pc + 8 * j + 1 + 2 + 1 + 2) = .ok (.caload, 1) ∧ decode c (pc + 8 * j + 1 + 2 + 1 + 2 + 1) = .ok (.castore, 1)
theorem cpR2 (X : Stand p l e R s m args below meth c T locs cells slots) (hx : p.tables.exec = Jvm.exec) (hZ : Z.Warmed39 s.vm) (eT : T.heap = h) {a b : Addr} {xs ys : List Int32} (F : CA Z h a .char xs) (G : CA Z h b .char ys) (hab : a ≠ b) {S : List Value} {n0 : Nat} (N : Fr n0 locs) (ge : n0 ≤ b) (hn : ∀ v ∈ xs, nar .char v = v) (la : Ls[0]? = some (.val (.ref a))) : ∀ k, 6 + k ≤ xs.length → 6 + k ≤ ys.length → k ≤ 12 → CpD2 c.code pc k →
    ∃ (T' : State) (h' : Heap) (L' : List Loc), Stand p l e R s m args below meth c T' L' cells slots ∧ T'.heap = h' ∧ Fr n0 L' ∧ Keep h h' [b] ∧ CA Z h' b .char (cpy xs ys 6 k) ∧ ∀ t, Steps p.tables e below (T'.setTop (mkF m (pc + 8 * k) Ls (.ref b :: S))) t → Steps p.tables e below (T.setTop (mkF m pc Ls (.ref b :: S))) t
  | 0, _, _, _, _ => ⟨T, h, locs, X, eT, N, Keep.refl h [b], G, fun t k => k⟩
  | k + 1, h1, h2, h3, D => by
    obtain ⟨T', h', L', X', e', N', K', V', st⟩ := cpR2 X hx hZ eT F G hab (S := S) N ge hn la k (by omega) (by omega) (by omega) (fun j hj => D j (by omega))
    obtain ⟨d1, d2, d3, d4, d5, d6⟩ := D k (by omega)
    obtain ⟨T2, h2', L2, X2, e2, N2, W2, V2, st2⟩ := cpel2 (S := S) X' hx hZ e' (F.keep K' (by simpa using hab)) V' (6 + k) (Int32.ofNat (6 + k)) (fI2 (6 + k) (by omega)) (ofNat_clamp (by omega)) (Int32.ofNat_not_neg (by omega)) (by rw [cpy_len]; omega) (by omega) (xs.getD (6 + k) 0) rfl (hn _ (getD_mem (by omega))) la d1 d2 d3 d4 d5 d6
    refine ⟨T2, h2', L2, X2, e2, N2 n0 N' ge, K'.wr W2 (Or.inl (List.mem_singleton.mpr rfl)), V2, fun t q => st t (st2 t ?_)⟩
    rw [show pc + 8 * k + 1 + 2 + 1 + 2 + 1 + 1 = pc + 8 * (k + 1) by omega]; exact q
abbrev TbD2 (c : ByteArray) (pc : Nat) (ws : List Int) (k : Nat) : Prop := ∀ j, j < k → decode c (pc + 6 * j) = .ok (.dup, 1) ∧ decode c (pc + 6 * j + 1) = .ok (.bipush ((6 + j : Nat) : Int), 2) ∧ decode c (pc + 6 * j + 1 + 2) = .ok (.bipush (ws.getD (6 + j) 0), 2) ∧ decode c (pc + 6 * j + 1 + 2 + 2) = .ok (.castore, 1)
theorem tbR2 (X : Stand p l e R s m args below meth c T locs cells slots) (hx : p.tables.exec = Jvm.exec) (hZ : Z.Warmed39 s.vm) (eT : T.heap = h) {b : Addr} {ys : List Int32} (ws : List Int) (G : CA Z h b .char ys) {S : List Value} {n0 : Nat} (N : Fr n0 locs) (ge : n0 ≤ b) : ∀ k, 6 + k ≤ ys.length → 6 + k ≤ 32 → TbD2 c.code pc ws k →
    ∃ (T' : State) (h' : Heap) (L' : List Loc), Stand p l e R s m args below meth c T' L' cells slots ∧ T'.heap = h' ∧ Fr n0 L' ∧ Keep h h' [b] ∧ CA Z h' b .char (tby ws ys 6 k) ∧ ∀ t, Steps p.tables e below (T'.setTop (mkF m (pc + 6 * k) Ls (.ref b :: S))) t → Steps p.tables e below (T.setTop (mkF m pc Ls (.ref b :: S))) t
  | 0, _, _, _ => ⟨T, h, locs, X, eT, N, Keep.refl h [b], G, fun t k => k⟩
  | k + 1, h1, h2, D => by
    obtain ⟨T', h', L', X', e', N', K', V', st⟩ := tbR2 X hx hZ eT ws G (S := S) N ge k (by omega) (by omega) (fun j hj => D j (by omega))
    obtain ⟨d1, d2, d3, d4⟩ := D k (by omega)
    obtain ⟨T2, h2', L2, X2, e2, N2, W2, V2, st2⟩ := stc (S := .ref b :: S) (x := (Int8.ofInt (ws.getD (6 + k) 0)).toInt32) (j := Int32.ofNat (6 + k)) X' hx hZ e' V' (6 + k) (ofNat_clamp (by omega)) (Int32.ofNat_not_neg (by omega)) (by rw [tby_len]; omega) d4
    refine ⟨T2, h2', L2, X2, e2, N2 n0 N' ge, K'.wr W2 (Or.inl (List.mem_singleton.mpr rfl)), V2, fun t q => st t (dup X' hx d1 rfl (bipush X' hx (Int32.ofNat (6 + k)) d2 (fI2 (6 + k) (by omega)) (bipush X' hx _ d3 rfl (st2 t ?_))))⟩
    rw [show pc + 6 * k + 1 + 2 + 2 + 1 = pc + 6 * (k + 1) by omega]; exact q
theorem cst2 (X : Stand p l e R s m args below meth c T locs cells slots) (hx : p.tables.exec = Jvm.exec) (hZ : Z.Warmed39 s.vm) (eT : T.heap = h) {b : Addr} {xs : List Int32} (G : CA Z h b .char xs) {S : List Value} {n0 : Nat} (N : Fr n0 locs) (ge : n0 ≤ b) {y : Int32} {I J o : Int} (i : Nat) (z v : Int32) (hI : (Int8.ofInt I).toInt32 = z) (hJ : (Int8.ofInt J).toInt32 = v) (hz : z.toNatClampNeg = i) (h0 : ¬ z < 0) (h1 : i < xs.length) (hn : nar .char v = v) (la : Ls[7]? = some (.val (.ref b))) (ho : 0 ≤ (pc : Int) + o) (hp : ((pc : Int) + o).toNat = pc + 3 + 2 + 2 + 2 + 1)
    (d1 : decode c.code pc = .ok (.ifCond .eq o, 3)) (d2 : decode c.code (pc + 3) = .ok (.aload 7, 2)) (d3 : decode c.code (pc + 3 + 2) = .ok (.bipush I, 2)) (d4 : decode c.code (pc + 3 + 2 + 2) = .ok (.bipush J, 2)) (d5 : decode c.code (pc + 3 + 2 + 2 + 2) = .ok (.castore, 1)) :
    ∃ (T' : State) (h' : Heap) (L' : List Loc), Stand p l e R s m args below meth c T' L' cells slots ∧ T'.heap = h' ∧ Fr n0 L' ∧ Keep h h' [b] ∧ CA Z h' b .char (xs.set i (if y = 0 then xs.getD i 0 else v)) ∧ ∀ t, Steps p.tables e below (T'.setTop (mkF m (pc + 3 + 2 + 2 + 2 + 1) Ls S)) t → Steps p.tables e below (T.setTop (mkF m pc Ls (.int y :: S))) t := by
  by_cases hy : y = 0
  · refine ⟨T, h, locs, X, eT, N, Keep.refl h [b], ?_, fun t k => ifYes X hx _ d1 ((if0 _ _).trans (teq hy).1) ho hp k⟩
    rw [if_pos hy, show xs.set i (xs.getD i 0) = xs by simp [h1]]; exact G
  · obtain ⟨T', h', L', X', e', N', W, V, st⟩ := stc (S := S) (x := v) (j := z) X hx hZ eT G i hz h0 h1 d5
    rw [hn] at W V
    exact ⟨T', h', L', X', e', N' n0 N ge, Keep.of_wr W, by rw [if_neg hy]; exact V, fun t k => ifNo X hx d1 ((if0 _ _).trans (feq hy).1) (aload X hx d2 la rfl (bipush X hx z d3 hI (bipush X hx v d4 hJ (st t k))))⟩
theorem callEW {vm0 : Vm} {EL : List (String × Nat)} {own : String} (X : Stand p l e R (s.setVm vm0) m args below meth c T locs cells slots) (hx : p.tables.exec = Jvm.exec) (hEL : EW Z a0 EL) (Wd0 : Wd s Z EL own m.cls vm0 h) (eT : T.heap = h) {index : Nat} {y : MethodName} {bytes : ByteArray} {maxL : Nat} {ret : Option FieldType} {rm : Room} {r : Value}
    (argsL rest : List Value) (hM : ConH l Z EL y bytes maxL ret rm argsL.toArray h (fun v h' L => v = some r ∧ L = [] ∧ Ext h h')) (w1 : (Cond.methodLink own index y).before a0 Z = true) (w2 : (Cond.static y).before a0 Z = true) (w3 : (Cond.initialized y.cls).before a0 Z = true) (w4 : (Cond.code y bytes maxL ret).before a0 Z = true)
    (hy : y.cls ≠ "java/lang/invoke/MethodHandle" ∧ y.cls ≠ "java/lang/invoke/VarHandle") (W : Nat) (hf : rm.frames + 1 ≤ R.frames) (hl : W + (maxL + 11) + rm.locals ≤ R.locals) (hcR : cells + rm.cells ≤ R.cells) (hsR : slots + rm.slots ≤ R.slots) (hsz : Ls.size = c.maxLocals)
    {S : List Value} (hlen : ∀ sig, parseMethodDescriptor y.desc = some sig → argsL.length = sig.parameters.length) (hS : S = argsL.reverse ++ rest) (hW : (rest.map fun v => v.category).sum ≤ W) (hd : decode c.code pc = .ok (.invokestatic index, 3)) :
    ∃ (vm1 : Vm) (T' : State) (h' : Heap), Stand p l e R (s.setVm vm1) m args below meth c T' locs (cells + rm.cells) (slots + rm.slots) ∧ T'.heap = h' ∧ Wd s Z EL own m.cls vm1 h' ∧ Ext h h' ∧ ∀ t, Steps p.tables e below (T'.setTop (mkF m (pc + 3) Ls (r :: rest))) t → Steps p.tables e below (T.setTop (mkF m pc Ls S)) t := by
  subst eT
  obtain ⟨v, _, ⟨T', L', k', n'⟩, -, X', hS', hg, ⟨L, ⟨hv, hL, hE⟩, l', y', z', hC⟩, st⟩ := callSS X hx (y := y) Wd0.hown (mvT Wd0.hZ w1) (mvT Wd0.hZ w2) (mvT Wd0.hZ w3) (mvT Wd0.hZ w4) hy (backOfSH (W := W) (Q := fun v h' L => v = some r ∧ L = [] ∧ Ext T.heap h') (hM []) Wd0.2.1 w4 w3 hf hl hEL Wd0.H) (g := mkF m pc Ls S) rfl hsz (argsL := argsL) (rest := rest) hlen hS (by show 2 * 0 + _ ≤ _; rw [Nat.mul_zero, Nat.zero_add]; exact hW) hd (fun _ _ => ⟨rfl, rfl, hcR, hsR⟩)
  dsimp only [Pt.U, Pt.locs, Pt.cells, Pt.slots] at X' l' y' z' st hS' hg hC hE
  subst hv hL l' y' z'
  rw [List.append_nil] at X'
  exact ⟨T'.vm, T', _, X', rfl, Wd.back (n1 := 0) Wd0 hS' hg hC, hE, fun t k => st.trans k⟩
end Runs
end Jvm.Own
/- laws to paste: Road.backV, Road.lenW, Road.chN, Road.codOf (cut by pick.py; bodies as the Statement names them) -/
namespace Jvm.Pilot.@@N@@
namespace StrChars
open Jvm Sem ClassFile Op Lib Jvm.Stand Jvm.Free.XT Jvm.Free.ALB Jvm.Free.JM Jvm.Free
open Jvm.Lib.Cold (StaticIs)
/-- a char array whose places are chars -/
def Ch (a : Addr) (A : Cell) (U : State) : Prop := Arr .char a A U ∧ Typed .char A
theorem Ch.mv {a : Addr} {A : Cell} {U U' : State} (h : Ch a A U) (hal : U.vm.Alike U'.vm) (hh : U'.heap = U.heap) : Ch a A U' := ⟨h.1.mv hal hh, h.2⟩
theorem Ch.keep {a : Addr} {A : Cell} {U U' : State} (h : Ch a A U) (hal : U.vm.Alike U'.vm) (hk : U'.heap[a]? = some A) : Ch a A U' := ⟨h.1.keep hal hk, h.2⟩
/-- what place i of a char[]'s cell holds -/
def cv (A : Cell) (i : Nat) : Int32 := match A.slots[i]? with | some (.int x) => x | _ => 0
theorem Ch.get {a : Addr} {A : Cell} {U : State} (h : Ch a A U) {i : Nat} (hi : i < A.slots.size) : A.slots[i]? = some (.int (cv A i)) := by
  have e := Array.getElem?_eq_getElem hi
  have f := h.2 i _ e
  unfold cv; rw [e]
  generalize A.slots[i] = v at f
  cases v <;> simp [fits] at f ⊢
/-- the byte that i2b leaves of a char -/
def lo8 (x : Int32) : Int32 := x.toInt8.toInt32
theorem fits_lo8 (y : Int32) : fits .byte (.int (lo8 y)) = true := by
  have h1 := y.toInt8.le_toInt
  have h2 := y.toInt8.toInt_lt
  simp only [lo8, fits, Bool.and_eq_true, decide_eq_true_eq, Int32.le_iff_toInt_le, Int8.toInt_toInt32, show (-128 : Int32).toInt = -128 from by decide, show (127 : Int32).toInt = 127 from by decide]
  omega
/-- A' is A but that each place j of lo .. hi - 1 holds f j -/
def Laid (A A' : Cell) (lo hi : Nat) (f : Nat → Value) : Prop := A'.cls = A.cls ∧ A'.vm = A.vm ∧ A'.slots.size = A.slots.size ∧ ∀ i, A'.slots[i]? = if lo ≤ i ∧ i < hi then some (f i) else A.slots[i]?
theorem Laid.zero (A : Cell) (lo : Nat) (f : Nat → Value) : Laid A A lo (lo + 0) f := ⟨rfl, rfl, rfl, fun i => by rw [if_neg (by omega)]⟩
theorem Laid.step {A Ak : Cell} {lo k : Nat} {f : Nat → Value} {v : Value} (h : Laid A Ak lo k f) (hlo : lo ≤ k) (hk : k < Ak.slots.size) (hv : v = f k) : Laid A (Ak.setSlot k v) lo (k + 1) f := by
  refine ⟨h.1, h.2.1, by simpa [Cell.setSlot] using h.2.2.1, fun i => ?_⟩
  by_cases e : k = i
  · subst e; rw [Cell.slots_setSlot_self v hk, if_pos (by omega), hv]
  · rw [Cell.slots_setSlot_ne v e, h.2.2.2 i]
    by_cases q : lo ≤ i ∧ i < k
    · rw [if_pos q, if_pos (by omega)]
    · rw [if_neg q, if_neg (by omega)]
def U16 : String := "java/lang/StringUTF16"
namespace Cmp5
def yN : MethodName := ⟨"java/lang/StringUTF16", "compress", "([CI[BII)I"⟩
abbrev yB : ByteArray := jdk_52_method_21_code
theorem d0 : decode yB 0 = .ok (.iconst 0, 1) := by decide +kernel
theorem d1 : decode yB 1 = .ok (.istore 5, 2) := by decide +kernel
theorem d3 : decode yB 3 = .ok (.iload 5, 2) := by decide +kernel
theorem d5 : decode yB 5 = .ok (.iload 4, 2) := by decide +kernel
theorem d7 : decode yB 7 = .ok (.if_icmp (.ge) 37, 3) := by decide +kernel
theorem d10 : decode yB 10 = .ok (.aload_n 0, 1) := by decide +kernel
theorem d11 : decode yB 11 = .ok (.iload_n 1, 1) := by decide +kernel
theorem d12 : decode yB 12 = .ok (.caload, 1) := by decide +kernel
theorem d13 : decode yB 13 = .ok (.istore 6, 2) := by decide +kernel
theorem d15 : decode yB 15 = .ok (.iload 6, 2) := by decide +kernel
theorem d17 : decode yB 17 = .ok (.sipush 255, 3) := by decide +kernel
theorem d20 : decode yB 20 = .ok (.if_icmp (.le) 6, 3) := by decide +kernel
theorem d26 : decode yB 26 = .ok (.aload_n 2, 1) := by decide +kernel
theorem d27 : decode yB 27 = .ok (.iload_n 3, 1) := by decide +kernel
theorem d28 : decode yB 28 = .ok (.iload 6, 2) := by decide +kernel
theorem d30 : decode yB 30 = .ok (.i2b, 1) := by decide +kernel
theorem d31 : decode yB 31 = .ok (.bastore, 1) := by decide +kernel
theorem d32 : decode yB 32 = .ok (.iinc 1 1, 3) := by decide +kernel
theorem d35 : decode yB 35 = .ok (.iinc 3 1, 3) := by decide +kernel
theorem d38 : decode yB 38 = .ok (.iinc 5 1, 3) := by decide +kernel
theorem d41 : decode yB 41 = .ok (.goto (-38), 3) := by decide +kernel
theorem d44 : decode yB 44 = .ok (.iload 4, 2) := by decide +kernel
theorem d46 : decode yB 46 = .ok (.ireturn, 1) := by decide +kernel
def site : List Cond := []
def tab : Cond := tabOf yN yB 7 (some .int) site
def P (b : Addr) (A : Cell) (d : Addr) (B : Cell) (o q len : Nat) (args : Array Value) (s : State) : Prop := args = #[.ref b, .int (Int32.ofNat o), .ref d, .int (Int32.ofNat q), .int (Int32.ofNat len)] ∧ Ch b A s ∧ Arr .byte d B s ∧ b ≠ d ∧ o + len ≤ A.slots.size ∧ q + len ≤ B.slots.size ∧ ∀ i, i < len → ¬ 255 < cv A (o + i)
def E (b : Addr) (A : Cell) (d : Addr) (B : Cell) (o q len : Nat) (r : Option Value) (s u : State) : Prop := r = some (.int (Int32.ofNat len)) ∧ ∃ B', Put d B' s u ∧ Laid B B' q (q + len) (fun j => Value.int (lo8 (cv A (o + (j - q)))))
/-- no char of the range above 255: len; the places written hold each char's low byte -/
theorem law (l : Launch) (b : Addr) (A : Cell) (d : Addr) (B : Cell) (o q len : Nat) : Law l yN 5 5 0 0 yB 7 (some .int) site (P b A d B o q len) (E b A d B o q len) (copyLocs d q len) 0 0 := by
  refine Law.of_walk (plainFor_of_name (by decide +kernel)) (by decide +kernel) (by decide +kernel) (by decide) (fun _ _ h => by rw [h.1]; rfl) (fun _ U U' hal hh h => ⟨h.1, h.2.1.mv hal hh, h.2.2.1.mv hal hh, h.2.2.2⟩) (fun r U U' V V' h1 hal h2 h => ⟨h.1, h.2.elim fun B' q => ⟨B', q.1.mv h1 h2, q.2⟩⟩) ?_
  intro p e s m args below meth c s₁ X0 hexec hbytes hml hret hlk hnm hown hh0 W hP
  obtain ⟨rfl, hA, hB, hne, l1, l2, hp⟩ := hP
  have c1 : Steps p.tables e below (s₁.setTop (entryFrame m #[.ref b, .int (Int32.ofNat o), .ref d, .int (Int32.ofNat q), .int (Int32.ofNat len)] 7)) (s₁.setTop (mkF m 0 #[.val (.ref b), .val (.int (Int32.ofNat o)), .val (.ref d), .val (.int (Int32.ofNat q)), .val (.int (Int32.ofNat len)), .unset, .unset] [])) := entry rfl
  have hA0 := hA.1.mv X0.warmed.alike hh0
  have hB0 := hB.mv X0.warmed.alike hh0
  have a31 := hA.1.2.2.2
  have c2 : Steps p.tables e below (s₁.setTop (entryFrame m #[.ref b, .int (Int32.ofNat o), .ref d, .int (Int32.ofNat q), .int (Int32.ofNat len)] 7)) (s₁.setTop (mkF m 3 #[.val (.ref b), .val (.int (Int32.ofNat o)), .val (.ref d), .val (.int (Int32.ofNat q)), .val (.int (Int32.ofNat len)), .val (.int 0), .unset] [])) := c1.trans (by
    refine iconstV X0.here hexec rfl 0 (hb hbytes d0) (by decide) ?_
    refine XS.istore X0.here hexec rfl (hb hbytes d1) rfl rfl ?_
    exact Steps.refl _)
  have loop : ∀ (r i : Nat), i + r = len → ∀ (z : Slot), (z = .unset ∨ ∃ w, z = .val w ∧ w.category = 1) → ∀ (Tl : State) (Bk : Cell), Stand p l e { frames := 0, locals := 0, cells := 0, slots := 0 } s m #[.ref b, .int (Int32.ofNat o), .ref d, .int (Int32.ofNat q), .int (Int32.ofNat len)] below meth c Tl ([] ++ copyLocs d q i) 0 0 → Put d Bk s₁ Tl → Laid B Bk q (q + i) (fun j => Value.int (lo8 (cv A (o + (j - q))))) →
      Steps p.tables e below (s₁.setTop (entryFrame m #[.ref b, .int (Int32.ofNat o), .ref d, .int (Int32.ofNat q), .int (Int32.ofNat len)] 7)) (Tl.setTop (mkF m 3 #[.val (.ref b), .val (.int (Int32.ofNat (o + i))), .val (.ref d), .val (.int (Int32.ofNat (q + i))), .val (.int (Int32.ofNat len)), .val (.int (Int32.ofNat i)), z] [])) → ∃ (T' : State) (B' : Cell) (z' : Slot), Stand p l e { frames := 0, locals := 0, cells := 0, slots := 0 } s m #[.ref b, .int (Int32.ofNat o), .ref d, .int (Int32.ofNat q), .int (Int32.ofNat len)] below meth c T' ([] ++ copyLocs d q len) 0 0 ∧ Put d B' s₁ T' ∧ Laid B B' q (q + len) (fun j => Value.int (lo8 (cv A (o + (j - q))))) ∧
      Steps p.tables e below (s₁.setTop (entryFrame m #[.ref b, .int (Int32.ofNat o), .ref d, .int (Int32.ofNat q), .int (Int32.ofNat len)] 7)) (T'.setTop (mkF m 3 #[.val (.ref b), .val (.int (Int32.ofNat (o + len))), .val (.ref d), .val (.int (Int32.ofNat (q + len))), .val (.int (Int32.ofNat len)), .val (.int (Int32.ofNat len)), z'] [])) := by
    intro r
    induction r with
    | zero =>
      intro i hi z hz Tl Bk Xl pl fl cl
      have hil : i = len := by omega
      rw [hil] at Xl fl cl
      exact ⟨Tl, Bk, z, Xl, pl, fl, cl⟩
    | succ r ih =>
      intro i hi z hz Tl Bk Xl pl fl cl
      have all := X0.warmed.alike.symm.trans Xl.warmed.alike
      have hAl := hA0.keep all (pl.other hne hA0.1)
      have hBk := hB0.like all pl.1 fl.1 fl.2.1 fl.2.2.1
      have hlt : q + i < Bk.slots.size := by rw [fl.2.2.1]; omega
      have c3 : Steps p.tables e below (s₁.setTop (entryFrame m #[.ref b, .int (Int32.ofNat o), .ref d, .int (Int32.ofNat q), .int (Int32.ofNat len)] 7)) (Tl.setTop (mkF m 12 #[.val (.ref b), .val (.int (Int32.ofNat (o + i))), .val (.ref d), .val (.int (Int32.ofNat (q + i))), .val (.int (Int32.ofNat len)), .val (.int (Int32.ofNat i)), z] [.int (Int32.ofNat (o + i)), .ref b])) := cl.trans (by
        refine XS.iload Xl.here hexec rfl (hb hbytes d3) rfl ?_
        refine XS.iload Xl.here hexec rfl (hb hbytes d5) rfl ?_
        refine XS.icmpNo Xl.here hexec rfl (hb hbytes d7) rfl (ii_ge_f (lt32 (by omega) (by omega))) ?_
        refine XS.aloadN Xl.here hexec rfl (hb hbytes d10) rfl rfl ?_
        refine XS.iloadN Xl.here hexec rfl (hb hbytes d11) rfl ?_
        exact Steps.refl _)
      have c4 : Steps p.tables e below (s₁.setTop (entryFrame m #[.ref b, .int (Int32.ofNat o), .ref d, .int (Int32.ofNat q), .int (Int32.ofNat len)] 7)) (Tl.setTop (mkF m 13 #[.val (.ref b), .val (.int (Int32.ofNat (o + i))), .val (.ref d), .val (.int (Int32.ofNat (q + i))), .val (.int (Int32.ofNat len)), .val (.int (Int32.ofNat i)), z] [.int (cv A (o + i))])) := c3.trans (by
        refine Xl.aget hexec hAl rfl (hA.get (i := o + i) (by omega)) rfl rfl (hb hbytes d12) ?_
        exact Steps.refl _)
      have c5 : Steps p.tables e below (s₁.setTop (entryFrame m #[.ref b, .int (Int32.ofNat o), .ref d, .int (Int32.ofNat q), .int (Int32.ofNat len)] 7)) (Tl.setTop (mkF m 15 #[.val (.ref b), .val (.int (Int32.ofNat (o + i))), .val (.ref d), .val (.int (Int32.ofNat (q + i))), .val (.int (Int32.ofNat len)), .val (.int (Int32.ofNat i)), .val (.int (cv A (o + i)))] [])) := c4.trans (by
        refine XS.istoreS Xl.here hexec rfl (hb hbytes d13) rfl rfl hz ?_
        exact Steps.refl _)
      have c6 : Steps p.tables e below (s₁.setTop (entryFrame m #[.ref b, .int (Int32.ofNat o), .ref d, .int (Int32.ofNat q), .int (Int32.ofNat len)] 7)) (Tl.setTop (mkF m 31 #[.val (.ref b), .val (.int (Int32.ofNat (o + i))), .val (.ref d), .val (.int (Int32.ofNat (q + i))), .val (.int (Int32.ofNat len)), .val (.int (Int32.ofNat i)), .val (.int (cv A (o + i)))] [.int (lo8 (cv A (o + i))), .int (Int32.ofNat (q + i)), .ref d])) := c5.trans (by
        refine XS.iload Xl.here hexec rfl (hb hbytes d15) rfl ?_
        refine sipushV Xl.here hexec rfl 255 (hb hbytes d17) (by decide) ?_
        refine XS.icmpYes Xl.here hexec rfl (pc0 := 20) rfl (hb hbytes d20) rfl (ii_le_t (hp i (by omega))) (by decide) rfl ?_
        refine XS.aloadN Xl.here hexec rfl (hb hbytes d26) rfl rfl ?_
        refine XS.iloadN Xl.here hexec rfl (hb hbytes d27) rfl ?_
        refine XS.iload Xl.here hexec rfl (hb hbytes d28) rfl ?_
        refine i2b Xl.here hexec rfl (hb hbytes d30) rfl ?_
        exact Steps.refl _)
      obtain ⟨T7, X7, p7, st7⟩ := Xl.aput hexec hBk rfl hlt rfl (fits_lo8 (cv A (o + i))) (g := (mkF m 31 #[.val (.ref b), .val (.int (Int32.ofNat (o + i))), .val (.ref d), .val (.int (Int32.ofNat (q + i))), .val (.int (Int32.ofNat len)), .val (.int (Int32.ofNat i)), .val (.int (cv A (o + i)))] [.int (lo8 (cv A (o + i))), .int (Int32.ofNat (q + i)), .ref d])) rfl (rest := []) rfl (hb hbytes d31)
      have c8 : Steps p.tables e below (s₁.setTop (entryFrame m #[.ref b, .int (Int32.ofNat o), .ref d, .int (Int32.ofNat q), .int (Int32.ofNat len)] 7)) (T7.setTop (mkF m 32 #[.val (.ref b), .val (.int (Int32.ofNat (o + i))), .val (.ref d), .val (.int (Int32.ofNat (q + i))), .val (.int (Int32.ofNat len)), .val (.int (Int32.ofNat i)), .val (.int (cv A (o + i)))] [])) := c6.trans (st7 _ (Steps.refl _))
      have c9 : Steps p.tables e below (s₁.setTop (entryFrame m #[.ref b, .int (Int32.ofNat o), .ref d, .int (Int32.ofNat q), .int (Int32.ofNat len)] 7)) (T7.setTop (mkF m 3 #[.val (.ref b), .val (.int (Int32.ofNat (o + i) + 1)), .val (.ref d), .val (.int (Int32.ofNat (q + i) + 1)), .val (.int (Int32.ofNat len)), .val (.int (Int32.ofNat i + 1)), .val (.int (cv A (o + i)))] [])) := c8.trans (by
        refine iincV X7.here hexec rfl 1 (hb hbytes d32) (by decide) rfl rfl ?_
        refine iincV X7.here hexec rfl 1 (hb hbytes d35) (by decide) rfl rfl ?_
        refine iincV X7.here hexec rfl 1 (hb hbytes d38) (by decide) rfl rfl ?_
        refine XS.goto X7.here hexec rfl (pc0 := 41) rfl (hb hbytes d41) (by decide) rfl ?_
        exact Steps.refl _)
      have c10 : Steps p.tables e below (s₁.setTop (entryFrame m #[.ref b, .int (Int32.ofNat o), .ref d, .int (Int32.ofNat q), .int (Int32.ofNat len)] 7)) (T7.setTop (mkF m 3 #[.val (.ref b), .val (.int (Int32.ofNat (o + (i + 1)))), .val (.ref d), .val (.int (Int32.ofNat (q + (i + 1)))), .val (.int (Int32.ofNat len)), .val (.int (Int32.ofNat (i + 1))), .val (.int (cv A (o + i)))] [])) := by
        have := c9
        rw [succ32, succ32, succ32] at this
        exact this
      exact ih (i + 1) (by omega) _ (Or.inr ⟨_, rfl, rfl⟩) T7 _ (by rw [copyLocs_step, ← List.append_assoc]; exact X7) (pl.trans p7) (fl.step (by omega) hlt (by simp)) c10
  obtain ⟨T9, B9, z9, X9, p9, f9, g9⟩ := loop len 0 (by omega) .unset (Or.inl rfl) s₁ B (by simpa [copyLocs] using X0) ⟨hB0.1, fun _ _ => rfl, rfl⟩ (Laid.zero _ _ _) c2
  have c11 : Steps p.tables e below (s₁.setTop (entryFrame m #[.ref b, .int (Int32.ofNat o), .ref d, .int (Int32.ofNat q), .int (Int32.ofNat len)] 7)) (T9.setTop (mkF m 46 #[.val (.ref b), .val (.int (Int32.ofNat (o + len))), .val (.ref d), .val (.int (Int32.ofNat (q + len))), .val (.int (Int32.ofNat len)), .val (.int (Int32.ofNat len)), z9] [.int (Int32.ofNat len)])) := g9.trans (by
    refine XS.iload X9.here hexec rfl (hb hbytes d3) rfl ?_
    refine XS.iload X9.here hexec rfl (hb hbytes d5) rfl ?_
    refine XS.icmpYes X9.here hexec rfl (pc0 := 7) rfl (hb hbytes d7) rfl (ii_ge_t (nlt32 (by omega) (Nat.le_refl _))) (by decide) rfl ?_
    refine XS.iload X9.here hexec rfl (hb hbytes d44) rfl ?_
    exact Steps.refl _)
  exact ⟨T9, some (.int (Int32.ofNat len)), _, _, _, X9, by simp, rfl, rfl, (fun h => by cases h), ⟨rfl, B9, p9.from hh0, f9⟩, fun fs hl => c11.trans (X9.ireturnOut hexec hret rfl (Or.inl rfl) (hb hbytes d46) hl)⟩
end Cmp5
namespace Cmp3
def yN : MethodName := ⟨"java/lang/StringUTF16", "compress", "([CII)[B"⟩
abbrev yB : ByteArray := jdk_52_method_16_code
theorem d0 : decode yB 0 = .ok (.iload_n 2, 1) := by decide +kernel
theorem d1 : decode yB 1 = .ok (.newarray .byte, 2) := by decide +kernel
theorem d3 : decode yB 3 = .ok (.astore_n 3, 1) := by decide +kernel
theorem d4 : decode yB 4 = .ok (.aload_n 0, 1) := by decide +kernel
theorem d5 : decode yB 5 = .ok (.iload_n 1, 1) := by decide +kernel
theorem d6 : decode yB 6 = .ok (.aload_n 3, 1) := by decide +kernel
theorem d7 : decode yB 7 = .ok (.iconst 0, 1) := by decide +kernel
theorem d8 : decode yB 8 = .ok (.iload_n 2, 1) := by decide +kernel
theorem d9 : decode yB 9 = .ok (.invokestatic 115, 3) := by decide +kernel
theorem d12 : decode yB 12 = .ok (.istore 4, 2) := by decide +kernel
theorem d14 : decode yB 14 = .ok (.iload 4, 2) := by decide +kernel
theorem d16 : decode yB 16 = .ok (.iload_n 2, 1) := by decide +kernel
theorem d17 : decode yB 17 = .ok (.if_icmp (.eq) 40, 3) := by decide +kernel
theorem d57 : decode yB 57 = .ok (.aload_n 3, 1) := by decide +kernel
theorem d58 : decode yB 58 = .ok (.areturn, 1) := by decide +kernel
def site : List Cond := [.arrayClass .byte, Cmp5.tab] ++ staticW U16 115 Cmp5.yN
def tab : Cond := tabOf yN yB 6 (some (.array .byte)) site
def P (b : Addr) (A : Cell) (o len : Nat) (args : Array Value) (s : State) : Prop := args = #[.ref b, .int (Int32.ofNat o), .int (Int32.ofNat len)] ∧ Ch b A s ∧ o + len ≤ A.slots.size ∧ len ≤ 536870912 ∧ ∀ i, i < len → ¬ 255 < cv A (o + i)
def E (b : Addr) (A : Cell) (o len : Nat) (r : Option Value) (s u : State) : Prop := NewArr .byte "[B" len (fun j => .int (lo8 (cv A (o + j)))) r s u ∧ u.heap.size = s.heap.size + 1
/-- no char of the range above 255: a new byte[] of their low bytes -/
theorem law (l : Launch) (b : Addr) (A : Cell) (o len : Nat) : Law l yN 3 3 1 18 yB 6 (some (.array .byte)) site (P b A o len) (E b A o len) [] 1 len := by
  refine Law.of_walk (plainFor_of_name (by decide +kernel)) (by decide +kernel) (by decide +kernel) (by decide) (fun _ _ h => by rw [h.1]; rfl) (fun _ U U' hal hh h => ⟨h.1, h.2.1.mv hal hh, h.2.2⟩) (fun r U U' V V' h1 hal h2 h => ⟨NewArr.mv r U U' V V' h1 hal h2 h.1, by rw [h1, h2]; exact h.2⟩) ?_
  intro p e s m args below meth c s₁ X0 hexec hbytes hml hret hlk hnm hown hh0 W hP
  obtain ⟨rfl, hA, l1, l2, hp⟩ := hP
  have a31 := hA.1.2.2.2
  have c1 : Steps p.tables e below (s₁.setTop (entryFrame m #[.ref b, .int (Int32.ofNat o), .int (Int32.ofNat len)] 6)) (s₁.setTop (mkF m 0 #[.val (.ref b), .val (.int (Int32.ofNat o)), .val (.int (Int32.ofNat len)), .unset, .unset, .unset] [])) := entry rfl
  have c2 : Steps p.tables e below (s₁.setTop (entryFrame m #[.ref b, .int (Int32.ofNat o), .int (Int32.ofNat len)] 6)) (s₁.setTop (mkF m 1 #[.val (.ref b), .val (.int (Int32.ofNat o)), .val (.int (Int32.ofNat len)), .unset, .unset, .unset] [.int (Int32.ofNat len)])) := c1.trans (by
    refine XS.iloadN X0.here hexec rfl (hb hbytes d0) rfl ?_
    exact Steps.refl _)
  obtain ⟨T3, B3, X3, ba3, bs3, bv3, bh3, bf3, st3⟩ := X0.anew hexec (atype := .byte) (wk W (.arrayClass .byte)) rfl (by show len * 1 ≤ _; omega) (by omega) (g := (mkF m 1 #[.val (.ref b), .val (.int (Int32.ofNat o)), .val (.int (Int32.ofNat len)), .unset, .unset, .unset] [.int (Int32.ofNat len)])) rfl (hb hbytes d1) (rest := []) rfl (Nat.le_refl _) (by show 0 + len ≤ len; omega)
  rw [hh0] at ba3 st3
  have kp3 : XT.Kept s T3 := (XT.Kept.of_eq hh0).push bh3
  have hA3 := hA.keep X3.warmed.alike (kp3 _ _ hA.1.1)
  have hne : b ≠ s.heap.size := hA.1.ne
  have c4 : Steps p.tables e below (s₁.setTop (entryFrame m #[.ref b, .int (Int32.ofNat o), .int (Int32.ofNat len)] 6)) (T3.setTop (mkF m 3 #[.val (.ref b), .val (.int (Int32.ofNat o)), .val (.int (Int32.ofNat len)), .unset, .unset, .unset] [.ref s.heap.size])) := c2.trans (st3 _ (Steps.refl _))
  have c5 : Steps p.tables e below (s₁.setTop (entryFrame m #[.ref b, .int (Int32.ofNat o), .int (Int32.ofNat len)] 6)) (T3.setTop (mkF m 9 #[.val (.ref b), .val (.int (Int32.ofNat o)), .val (.int (Int32.ofNat len)), .val (.ref s.heap.size), .unset, .unset] [.int (Int32.ofNat len), .int 0, .ref s.heap.size, .int (Int32.ofNat o), .ref b])) := c4.trans (by
    refine XS.astoreN X3.here hexec rfl (hb hbytes d3) rfl rfl rfl ?_
    refine XS.aloadN X3.here hexec rfl (hb hbytes d4) rfl rfl ?_
    refine XS.iloadN X3.here hexec rfl (hb hbytes d5) rfl ?_
    refine XS.aloadN X3.here hexec rfl (hb hbytes d6) rfl rfl ?_
    refine iconstV X3.here hexec rfl 0 (hb hbytes d7) (by decide) ?_
    refine XS.iloadN X3.here hexec rfl (hb hbytes d8) rfl ?_
    exact Steps.refl _)
  obtain ⟨v6, T6, X6, E6, g6⟩ := X3.callS hexec (Cmp5.law l b A s.heap.size B3 o 0 len) hown (wks W (staticW U16 115 Cmp5.yN)) (wk W Cmp5.tab) (W := 0) (Nat.le_of_ble_eq_true rfl) (Nat.le_of_ble_eq_true rfl) (Nat.le_refl _) (by show 0 + len + 0 ≤ len; omega) (g := (mkF m 9 #[.val (.ref b), .val (.int (Int32.ofNat o)), .val (.int (Int32.ofNat len)), .val (.ref s.heap.size), .unset, .unset] [.int (Int32.ofNat len), .int (Int32.ofNat 0), .ref s.heap.size, .int (Int32.ofNat o), .ref b])) rfl (by rw [hml]; rfl) c5 (argsL := [.ref b, .int (Int32.ofNat o), .ref s.heap.size, .int (Int32.ofNat 0), .int (Int32.ofNat len)]) (rest := []) rfl rfl (by show 2 * 0 + 0 ≤ _; decide) (hb hbytes d9) (⟨rfl, hA3, ba3, hne, l1, by rw [bs3]; simp, hp⟩)
  obtain ⟨rfl, B6, p6, f6⟩ := E6
  have c7 : Steps p.tables e below (s₁.setTop (entryFrame m #[.ref b, .int (Int32.ofNat o), .int (Int32.ofNat len)] 6)) (T6.setTop (mkF m 12 #[.val (.ref b), .val (.int (Int32.ofNat o)), .val (.int (Int32.ofNat len)), .val (.ref s.heap.size), .unset, .unset] [.int (Int32.ofNat len)])) := g6
  have c8 : Steps p.tables e below (s₁.setTop (entryFrame m #[.ref b, .int (Int32.ofNat o), .int (Int32.ofNat len)] 6)) (T6.setTop (mkF m 58 #[.val (.ref b), .val (.int (Int32.ofNat o)), .val (.int (Int32.ofNat len)), .val (.ref s.heap.size), .val (.int (Int32.ofNat len)), .unset] [.ref s.heap.size])) := c7.trans (by
    refine XS.istore X6.here hexec rfl (hb hbytes d12) rfl rfl ?_
    refine XS.iload X6.here hexec rfl (hb hbytes d14) rfl ?_
    refine XS.iloadN X6.here hexec rfl (hb hbytes d16) rfl ?_
    refine XS.icmpYes X6.here hexec rfl (pc0 := 17) rfl (hb hbytes d17) rfl (ii_eq_t rfl) (by decide) rfl ?_
    refine XS.aloadN X6.here hexec rfl (hb hbytes d57) rfl rfl ?_
    exact Steps.refl _)
  have X8 := X6.wide (L' := []) (cells' := 1) (slots' := len) (fun x hx hlt => by
    simp only [List.nil_append, copyLocs, List.mem_map, List.mem_range] at hx
    obtain ⟨i, -, rfl⟩ := hx
    exact absurd hlt (Nat.lt_irrefl _)) (Nat.le_refl _) (by omega)
  exact ⟨T6, some (.ref s.heap.size), _, _, _, X8, rfl, rfl, rfl, (fun h => by cases h), ⟨⟨rfl, B6, ba3.like (X3.warmed.alike.symm.trans X6.warmed.alike) p6.1 f6.1 f6.2.1 f6.2.2.1, f6.2.1.trans bv3, by rw [X6.warmed.alike.findClass, f6.1]; exact bf3, by rw [f6.2.2.1, bs3]; simp, fun j hj => by rw [f6.2.2.2 j, if_pos (by omega)]; rfl, kp3.put p6 (Nat.le_refl _)⟩, by rw [p6.2.2, bh3, hh0]; simp⟩, fun fs hl => c8.trans (X8.areturnOut hexec rfl hret rfl (hb hbytes d58) hl)⟩
end Cmp3
namespace CodL
def yN : MethodName := ⟨"java/lang/StringUTF16", "coderFromArrayLen", "([BI)B"⟩
abbrev yB : ByteArray := jdk_52_method_15_code
theorem d0 : decode yB 0 = .ok (.iload_n 1, 1) := by decide +kernel
theorem d1 : decode yB 1 = .ok (.aload_n 0, 1) := by decide +kernel
theorem d2 : decode yB 2 = .ok (.arraylength, 1) := by decide +kernel
theorem d3 : decode yB 3 = .ok (.isub, 1) := by decide +kernel
theorem d4 : decode yB 4 = .ok (.bipush 31, 2) := by decide +kernel
theorem d6 : decode yB 6 = .ok (.iushr, 1) := by decide +kernel
theorem d7 : decode yB 7 = .ok (.i2b, 1) := by decide +kernel
theorem d8 : decode yB 8 = .ok (.ireturn, 1) := by decide +kernel
def site : List Cond := []
def tab : Cond := tabOf yN yB 2 (some .byte) site
def P (d : Addr) (B : Cell) (args : Array Value) (s : State) : Prop := args = #[.ref d, .int (Int32.ofNat B.slots.size)] ∧ Arr .byte d B s
def E (r : Option Value) (s u : State) : Prop := XT.PureE (some (.int 0)) r s u
/-- an array as long as the number of chars: LATIN1 -/
theorem law (l : Launch) (d : Addr) (B : Cell) : Law l yN 2 2 0 0 yB 2 (some .byte) site (P d B) E [] 0 0 := by
  refine Law.of_walk (plainFor_of_name (by decide +kernel)) (by decide +kernel) (by decide +kernel) (by decide) (fun _ _ h => by rw [h.1]; rfl) (fun _ U U' hal hh h => ⟨h.1, h.2.mv hal hh⟩) (fun r U U' V V' h1 hal h2 h => XT.PureE.mv r U U' V V' h1 hal h2 h) ?_
  intro p e s m args below meth c s₁ X0 hexec hbytes hml hret hlk hnm hown hh0 W hP
  obtain ⟨rfl, hB⟩ := hP
  have hB0 := hB.mv X0.warmed.alike hh0
  have c1 : Steps p.tables e below (s₁.setTop (entryFrame m #[.ref d, .int (Int32.ofNat B.slots.size)] 2)) (s₁.setTop (mkF m 0 #[.val (.ref d), .val (.int (Int32.ofNat B.slots.size))] [])) := entry rfl
  have c2 : Steps p.tables e below (s₁.setTop (entryFrame m #[.ref d, .int (Int32.ofNat B.slots.size)] 2)) (s₁.setTop (mkF m 2 #[.val (.ref d), .val (.int (Int32.ofNat B.slots.size))] [.ref d, .int (Int32.ofNat B.slots.size)])) := c1.trans (by
    refine XS.iloadN X0.here hexec rfl (hb hbytes d0) rfl ?_
    refine XS.aloadN X0.here hexec rfl (hb hbytes d1) rfl rfl ?_
    exact Steps.refl _)
  have c3 : Steps p.tables e below (s₁.setTop (entryFrame m #[.ref d, .int (Int32.ofNat B.slots.size)] 2)) (s₁.setTop (mkF m 8 #[.val (.ref d), .val (.int (Int32.ofNat B.slots.size))] [.int (lo8 (ushr (Int32.ofNat B.slots.size - Int32.ofNat B.slots.size) 31))])) := c2.trans (by
    refine X0.alen hexec hB0 rfl rfl (hb hbytes d2) ?_
    refine XS.isub X0.here hexec rfl (hb hbytes d3) rfl ?_
    refine bipushV X0.here hexec rfl 31 (hb hbytes d4) (by decide) ?_
    refine iushr X0.here hexec rfl (hb hbytes d6) rfl ?_
    refine i2b X0.here hexec rfl (hb hbytes d7) rfl ?_
    exact Steps.refl _)
  have e0 : lo8 (ushr (Int32.ofNat B.slots.size - Int32.ofNat B.slots.size) 31) = 0 := by rw [Int32.sub_self]; decide
  rw [e0] at c3
  exact ⟨s₁, some (.int 0), _, _, _, X0, rfl, rfl, rfl, (fun h => by cases h), ⟨rfl, hh0⟩, fun fs hl => c3.trans (X0.ireturnOut hexec hret rfl (Or.inr (Or.inr (Or.inl rfl))) (hb hbytes d8) hl)⟩
end CodL
/-- the String at a is Latin-1 over a new byte[] (the heap's one new cell): the low bytes of the len chars of A from o on; every cell but a is kept -/
def Got (a : Addr) (D : Cell) (fV fC : Field) (A : Cell) (o len : Nat) (r : Option Value) (s u : State) : Prop := r = none ∧ ∃ D' V : Cell, Blank "java/lang/String" a D' u ∧ Same D D' [fV.slot, fC.slot] ∧ D'.slots[fV.slot]? = some (.ref s.heap.size) ∧ D'.slots[fC.slot]? = some (.int 0) ∧ Arr .byte s.heap.size V u ∧ V.vm = .none ∧ u.vm.findClass "[B" = some V.cls ∧ V.slots.size = len ∧ (∀ j, j < len → V.slots[j]? = some (.int (lo8 (cv A (o + j))))) ∧ (∀ (y : Addr) (c : Cell), y ≠ a → s.heap[y]? = some c → u.heap[y]? = some c) ∧ u.heap.size = s.heap.size + 1
theorem Got.mv {a : Addr} {D A : Cell} {fV fC : Field} {o len : Nat} : ∀ r (U U' V V' : State), U'.heap = U.heap → V.vm.Alike V'.vm → V'.heap = V.heap → Got a D fV fC A o len r U V → Got a D fV fC A o len r U' V' :=
  fun r U U' V V' h1 hal h2 ⟨e0, D', X, a1, a2, a3, a4, a5, a6, a7, a8, a9, a10, a11⟩ => ⟨e0, D', X, a1.mv hal h2, a2, by rw [h1]; exact a3, a4, by rw [h1]; exact a5.mv hal h2, a6, by rw [hal.findClass]; exact a7, a8, a9, by rw [h1, h2]; exact a10, by rw [h1, h2]; exact a11⟩
namespace New4
def yN : MethodName := ⟨"java/lang/String", "<init>", "([CIILjava/lang/Void;)V"⟩
abbrev yB : ByteArray := jdk_42_method_149_code
theorem d0 : decode yB 0 = .ok (.aload_n 0, 1) := by decide +kernel
theorem d1 : decode yB 1 = .ok (.invokespecial 1, 3) := by decide +kernel
theorem d4 : decode yB 4 = .ok (.iload_n 3, 1) := by decide +kernel
theorem d5 : decode yB 5 = .ok (.ifCond (.ne) 22, 3) := by decide +kernel
theorem d27 : decode yB 27 = .ok (.getstatic 38, 3) := by decide +kernel
theorem d30 : decode yB 30 = .ok (.ifCond (.eq) 28, 3) := by decide +kernel
theorem d33 : decode yB 33 = .ok (.aload_n 1, 1) := by decide +kernel
theorem d34 : decode yB 34 = .ok (.iload_n 2, 1) := by decide +kernel
theorem d35 : decode yB 35 = .ok (.iload_n 3, 1) := by decide +kernel
theorem d36 : decode yB 36 = .ok (.invokestatic 177, 3) := by decide +kernel
theorem d39 : decode yB 39 = .ok (.astore 5, 2) := by decide +kernel
theorem d41 : decode yB 41 = .ok (.aload_n 0, 1) := by decide +kernel
theorem d42 : decode yB 42 = .ok (.aload 5, 2) := by decide +kernel
theorem d44 : decode yB 44 = .ok (.iload_n 3, 1) := by decide +kernel
theorem d45 : decode yB 45 = .ok (.invokestatic 47, 3) := by decide +kernel
theorem d48 : decode yB 48 = .ok (.putfield 15, 3) := by decide +kernel
theorem d51 : decode yB 51 = .ok (.aload_n 0, 1) := by decide +kernel
theorem d52 : decode yB 52 = .ok (.aload 5, 2) := by decide +kernel
theorem d54 : decode yB 54 = .ok (.putfield 9, 3) := by decide +kernel
theorem d57 : decode yB 57 = .ok (.return_, 1) := by decide +kernel
def site : List Cond := [.fieldLink "java/lang/String" 38 "java/lang/String" "COMPACT_STRINGS" "Z", Cmp3.tab, CodL.tab, .laysFinal "java/lang/String" "java/lang/String" "value" "[B", .fieldLink "java/lang/String" 9 "java/lang/String" "value" "[B", .laysFinal "java/lang/String" "java/lang/String" "coder" "B", .fieldLink "java/lang/String" 15 "java/lang/String" "coder" "B"] ++ objW "java/lang/String" 1 ++ staticW "java/lang/String" 177 Cmp3.yN ++ staticW "java/lang/String" 47 CodL.yN
def tab : Cond := tabOf yN yB 6 none site
def P (a : Addr) (D : Cell) (fV fC : Field) (b : Addr) (A : Cell) (z : Int32) (o len : Nat) (args : Array Value) (s : State) : Prop := args = #[.ref a, .ref b, .int (Int32.ofNat o), .int (Int32.ofNat len), .null] ∧ Blank "java/lang/String" a D s ∧ Found "java/lang/String" "value" "[B" fV s ∧ Found "java/lang/String" "coder" "B" fC s ∧ Ch b A s ∧ StaticIs s "java/lang/String" "COMPACT_STRINGS" "Z" (.int z) ∧ ¬ z = 0 ∧ 0 < len ∧ o + len ≤ A.slots.size ∧ len ≤ 536870912 ∧ ∀ i, i < len → ¬ 255 < cv A (o + i)
def E (a : Addr) (D : Cell) (fV fC : Field) (A : Cell) (o len : Nat) (r : Option Value) (s u : State) : Prop := Got a D fV fC A o len r s u
/-- len > 0, no char of the range above 255: a Latin-1 String of their low bytes -/
theorem law (l : Launch) (a : Addr) (D : Cell) (fV fC : Field) (b : Addr) (A : Cell) (z : Int32) (o len : Nat) : Law l yN 5 4 2 35 yB 6 none site (P a D fV fC b A z o len) (E a D fV fC A o len) [⟨a, fC.slot⟩, ⟨a, fV.slot⟩] 1 len := by
  refine Law.of_walk (plainFor_of_name (by decide +kernel)) (by decide +kernel) (by decide +kernel) (by decide) (fun _ _ h => by rw [h.1]; rfl) (fun _ U U' hal hh h => ⟨h.1, h.2.1.mv hal hh, h.2.2.1.al hal, h.2.2.2.1.al hal, h.2.2.2.2.1.mv hal hh, h.2.2.2.2.2.1.there hal hh, h.2.2.2.2.2.2⟩) (fun r U U' V V' h1 hal h2 h => Got.mv r U U' V V' h1 hal h2 h) ?_
  intro p e s m args below meth c s₁ X0 hexec hbytes hml hret hlk hnm hown hh0 W hP
  obtain ⟨rfl, hB, f1, f2, hA, s1, hz, l0, l1, l2, hp⟩ := hP
  have a31 := hA.1.2.2.2
  have c1 : Steps p.tables e below (s₁.setTop (entryFrame m #[.ref a, .ref b, .int (Int32.ofNat o), .int (Int32.ofNat len), .null] 6)) (s₁.setTop (mkF m 0 #[.val (.ref a), .val (.ref b), .val (.int (Int32.ofNat o)), .val (.int (Int32.ofNat len)), .val .null, .unset] [])) := entry rfl
  have c2 : Steps p.tables e below (s₁.setTop (entryFrame m #[.ref a, .ref b, .int (Int32.ofNat o), .int (Int32.ofNat len), .null] 6)) (s₁.setTop (mkF m 1 #[.val (.ref a), .val (.ref b), .val (.int (Int32.ofNat o)), .val (.int (Int32.ofNat len)), .val .null, .unset] [.ref a])) := c1.trans (by
    refine XS.aloadN X0.here hexec rfl (hb hbytes d0) rfl rfl ?_
    exact Steps.refl _)
  obtain ⟨T3, X3, q3, st3⟩ := X0.oinit hexec hown (wks W (objW "java/lang/String" 1)) (g := (mkF m 1 #[.val (.ref a), .val (.ref b), .val (.int (Int32.ofNat o)), .val (.int (Int32.ofNat len)), .val .null, .unset] [.ref a])) rfl (by rw [hml]; rfl) (rest := []) rfl (hb hbytes d1) (W := 0) (by show 2 * 0 + 0 ≤ _; decide) (Nat.le_of_ble_eq_true rfl) (Nat.le_of_ble_eq_true rfl)
  have hh3 := q3.trans hh0
  have c4 : Steps p.tables e below (s₁.setTop (entryFrame m #[.ref a, .ref b, .int (Int32.ofNat o), .int (Int32.ofNat len), .null] 6)) (T3.setTop (mkF m 27 #[.val (.ref a), .val (.ref b), .val (.int (Int32.ofNat o)), .val (.int (Int32.ofNat len)), .val .null, .unset] [])) := (c2.trans (st3 _ (Steps.refl _))).trans (by
    refine XS.iloadN X3.here hexec rfl (hb hbytes d4) rfl ?_
    refine XS.ifYes X3.here hexec rfl (pc0 := 5) rfl (hb hbytes d5) rfl (i0_ne_t (nz32 (by omega) l0)) (by decide) rfl ?_
    exact Steps.refl _)
  obtain ⟨T5, X5, q5, st5⟩ := X3.sget hexec hown (wk W (.fieldLink "java/lang/String" 38 "java/lang/String" "COMPACT_STRINGS" "Z")) s1 (fun _ _ h => by rw [hh3]; exact h) (g := (mkF m 27 #[.val (.ref a), .val (.ref b), .val (.int (Int32.ofNat o)), .val (.int (Int32.ofNat len)), .val .null, .unset] [])) rfl (hb hbytes d27)
  have hh5 := q5.trans hh3
  have c6 : Steps p.tables e below (s₁.setTop (entryFrame m #[.ref a, .ref b, .int (Int32.ofNat o), .int (Int32.ofNat len), .null] 6)) (T5.setTop (mkF m 30 #[.val (.ref a), .val (.ref b), .val (.int (Int32.ofNat o)), .val (.int (Int32.ofNat len)), .val .null, .unset] [.int z])) := c4.trans (st5 _ (Steps.refl _))
  have c7 : Steps p.tables e below (s₁.setTop (entryFrame m #[.ref a, .ref b, .int (Int32.ofNat o), .int (Int32.ofNat len), .null] 6)) (T5.setTop (mkF m 36 #[.val (.ref a), .val (.ref b), .val (.int (Int32.ofNat o)), .val (.int (Int32.ofNat len)), .val .null, .unset] [.int (Int32.ofNat len), .int (Int32.ofNat o), .ref b])) := c6.trans (by
    refine XS.ifNo X5.here hexec rfl (hb hbytes d30) rfl (i0_eq_f hz) ?_
    refine XS.aloadN X5.here hexec rfl (hb hbytes d33) rfl rfl ?_
    refine XS.iloadN X5.here hexec rfl (hb hbytes d34) rfl ?_
    refine XS.iloadN X5.here hexec rfl (hb hbytes d35) rfl ?_
    exact Steps.refl _)
  obtain ⟨v8, T8, X8, E8, g8⟩ := X5.callS hexec (Cmp3.law l b A o len) hown (wks W (staticW "java/lang/String" 177 Cmp3.yN)) (wk W Cmp3.tab) (W := 0) (Nat.le_of_ble_eq_true rfl) (Nat.le_of_ble_eq_true rfl) (Nat.le_refl _) (by show 0 + len ≤ len; omega) (g := (mkF m 36 #[.val (.ref a), .val (.ref b), .val (.int (Int32.ofNat o)), .val (.int (Int32.ofNat len)), .val .null, .unset] [.int (Int32.ofNat len), .int (Int32.ofNat o), .ref b])) rfl (by rw [hml]; rfl) c7 (argsL := [.ref b, .int (Int32.ofNat o), .int (Int32.ofNat len)]) (rest := []) rfl rfl (by show 2 * 0 + 0 ≤ _; decide) (hb hbytes d36) (⟨rfl, hA.mv X5.warmed.alike hh5, l1, l2, hp⟩)
  obtain ⟨e8, z8⟩ := E8
  obtain ⟨rfl, N, n1, n2, n3, n4, n5, n6⟩ := NewArr.mv _ T5 s _ _ hh5.symm (Vm.Alike.refl _) rfl e8
  rw [hh5] at z8
  have hB1 := hB.keep X8.warmed.alike (n6 _ _ hB.1)
  have hne : s.heap.size ≠ a := (Nat.ne_of_lt (Array.getElem?_eq_some_iff.mp hB.1).1).symm
  have c9 : Steps p.tables e below (s₁.setTop (entryFrame m #[.ref a, .ref b, .int (Int32.ofNat o), .int (Int32.ofNat len), .null] 6)) (T8.setTop (mkF m 39 #[.val (.ref a), .val (.ref b), .val (.int (Int32.ofNat o)), .val (.int (Int32.ofNat len)), .val .null, .unset] [.ref s.heap.size])) := g8
  have c10 : Steps p.tables e below (s₁.setTop (entryFrame m #[.ref a, .ref b, .int (Int32.ofNat o), .int (Int32.ofNat len), .null] 6)) (T8.setTop (mkF m 45 #[.val (.ref a), .val (.ref b), .val (.int (Int32.ofNat o)), .val (.int (Int32.ofNat len)), .val .null, .val (.ref s.heap.size)] [.int (Int32.ofNat N.slots.size), .ref s.heap.size, .ref a])) := by
    have hc : Steps p.tables e below (s₁.setTop (entryFrame m #[.ref a, .ref b, .int (Int32.ofNat o), .int (Int32.ofNat len), .null] 6)) (T8.setTop (mkF m 45 #[.val (.ref a), .val (.ref b), .val (.int (Int32.ofNat o)), .val (.int (Int32.ofNat len)), .val .null, .val (.ref s.heap.size)] [.int (Int32.ofNat len), .ref s.heap.size, .ref a])) := c9.trans (by
      refine XS.astore X8.here hexec rfl (hb hbytes d39) rfl rfl rfl ?_
      refine XS.aloadN X8.here hexec rfl (hb hbytes d41) rfl rfl ?_
      refine XS.aload X8.here hexec rfl (hb hbytes d42) rfl rfl ?_
      refine XS.iloadN X8.here hexec rfl (hb hbytes d44) rfl ?_
      exact Steps.refl _)
    rw [n4]; exact hc
  obtain ⟨v11, T11, X11, E11, g11⟩ := X8.callS hexec (CodL.law l s.heap.size N) hown (wks W (staticW "java/lang/String" 47 CodL.yN)) (wk W CodL.tab) (W := 1) (Nat.le_of_ble_eq_true rfl) (Nat.le_of_ble_eq_true rfl) (Nat.le_refl _) (by show 0 + len + 0 ≤ len; omega) (g := (mkF m 45 #[.val (.ref a), .val (.ref b), .val (.int (Int32.ofNat o)), .val (.int (Int32.ofNat len)), .val .null, .val (.ref s.heap.size)] [.int (Int32.ofNat N.slots.size), .ref s.heap.size, .ref a])) rfl (by rw [hml]; rfl) c10 (argsL := [.ref s.heap.size, .int (Int32.ofNat N.slots.size)]) (rest := [.ref a]) rfl rfl (by show 2 * 0 + (1 + 0) ≤ _; decide) (hb hbytes d45) (⟨rfl, n1⟩)
  obtain ⟨rfl, q11⟩ := E11
  have hB11 := hB1.mv (X8.warmed.alike.symm.trans X11.warmed.alike) q11
  have c12 : Steps p.tables e below (s₁.setTop (entryFrame m #[.ref a, .ref b, .int (Int32.ofNat o), .int (Int32.ofNat len), .null] 6)) (T11.setTop (mkF m 48 #[.val (.ref a), .val (.ref b), .val (.int (Int32.ofNat o)), .val (.int (Int32.ofNat len)), .val .null, .val (.ref s.heap.size)] [.int 0, .ref a])) := g11
  obtain ⟨T13, X13, p13, bl13, sl13, st13⟩ := X11.finit hexec hown (wk W (.fieldLink "java/lang/String" 15 "java/lang/String" "coder" "B")) (Or.inr ⟨_, (wk W (.laysFinal "java/lang/String" "java/lang/String" "coder" "B"))⟩) (Or.inl ⟨rfl, hnm⟩) f2 (Or.inl rfl) hB11 (t := .byte) (by decide +kernel) rfl (g := (mkF m 48 #[.val (.ref a), .val (.ref b), .val (.int (Int32.ofNat o)), .val (.int (Int32.ofNat len)), .val .null, .val (.ref s.heap.size)] [.int 0, .ref a])) rfl (rest := []) rfl (hb hbytes d48)
  have c14 : Steps p.tables e below (s₁.setTop (entryFrame m #[.ref a, .ref b, .int (Int32.ofNat o), .int (Int32.ofNat len), .null] 6)) (T13.setTop (mkF m 54 #[.val (.ref a), .val (.ref b), .val (.int (Int32.ofNat o)), .val (.int (Int32.ofNat len)), .val .null, .val (.ref s.heap.size)] [.ref s.heap.size, .ref a])) := (c12.trans (st13 _ (Steps.refl _))).trans (by
    refine XS.aloadN X13.here hexec rfl (hb hbytes d51) rfl rfl ?_
    refine XS.aload X13.here hexec rfl (hb hbytes d52) rfl rfl ?_
    exact Steps.refl _)
  obtain ⟨T15, X15, p15, bl15, sl15, st15⟩ := X13.finit hexec hown (wk W (.fieldLink "java/lang/String" 9 "java/lang/String" "value" "[B")) (Or.inr ⟨_, (wk W (.laysFinal "java/lang/String" "java/lang/String" "value" "[B"))⟩) (Or.inl ⟨rfl, hnm⟩) f1 (Or.inl rfl) bl13 (t := (.array .byte)) (by decide +kernel) rfl (g := (mkF m 54 #[.val (.ref a), .val (.ref b), .val (.int (Int32.ofNat o)), .val (.int (Int32.ofNat len)), .val .null, .val (.ref s.heap.size)] [.ref s.heap.size, .ref a])) rfl (rest := []) rfl (hb hbytes d54)
  have c16 : Steps p.tables e below (s₁.setTop (entryFrame m #[.ref a, .ref b, .int (Int32.ofNat o), .int (Int32.ofNat len), .null] 6)) (T15.setTop (mkF m 57 #[.val (.ref a), .val (.ref b), .val (.int (Int32.ofNat o)), .val (.int (Int32.ofNat len)), .val .null, .val (.ref s.heap.size)] [])) := c14.trans (st15 _ (Steps.refl _))
  have ap := apart (Or.inr ⟨_, (wk W (.laysFinal "java/lang/String" "java/lang/String" "value" "[B"))⟩) (Or.inr ⟨_, (wk W (.laysFinal "java/lang/String" "java/lang/String" "coder" "B"))⟩) f1 f2 (t₁ := .array .byte) (t₂ := .byte) (by decide +kernel) (by decide +kernel) (by decide)
  have al := X8.warmed.alike.symm.trans X15.warmed.alike
  have n7 : T11.heap[s.heap.size]? = some N := by rw [q11]; exact n1.1
  exact ⟨T15, none, _, _, _, X15, by simp, rfl, by omega, (fun _ => rfl), ⟨rfl, _, N, bl15, ((Same.refl D _).set _ (by simp)).set _ (by simp), sl15, (Cell.slots_setSlot_ne _ ap).trans sl13, n1.keep al (p15.other hne (p13.other hne n7)), n2, by rw [al.findClass]; exact n3, n4, n5, fun y c h1 h2 => p15.other h1 (p13.other h1 (by rw [q11]; exact n6 y c h2)), by rw [p15.2.2, p13.2.2, q11]; exact z8⟩, fun fs hl => c16.trans (X15.returnOut hexec hret (hb hbytes d57) hl)⟩
end New4
namespace New1
def yN : MethodName := ⟨"java/lang/String", "<init>", "([C)V"⟩
abbrev yB : ByteArray := jdk_42_method_3_code
theorem d0 : decode yB 0 = .ok (.aload_n 0, 1) := by decide +kernel
theorem d1 : decode yB 1 = .ok (.aload_n 1, 1) := by decide +kernel
theorem d2 : decode yB 2 = .ok (.iconst 0, 1) := by decide +kernel
theorem d3 : decode yB 3 = .ok (.aload_n 1, 1) := by decide +kernel
theorem d4 : decode yB 4 = .ok (.arraylength, 1) := by decide +kernel
theorem d5 : decode yB 5 = .ok (.aconst_null, 1) := by decide +kernel
theorem d6 : decode yB 6 = .ok (.invokespecial 27, 3) := by decide +kernel
theorem d9 : decode yB 9 = .ok (.return_, 1) := by decide +kernel
def site : List Cond := [New4.tab] ++ initW "java/lang/String" 27 New4.yN
def tab : Cond := tabOf yN yB 2 none site
def P (a : Addr) (D : Cell) (fV fC : Field) (b : Addr) (A : Cell) (z : Int32) (args : Array Value) (s : State) : Prop := args = #[.ref a, .ref b] ∧ Blank "java/lang/String" a D s ∧ Found "java/lang/String" "value" "[B" fV s ∧ Found "java/lang/String" "coder" "B" fC s ∧ Ch b A s ∧ StaticIs s "java/lang/String" "COMPACT_STRINGS" "Z" (.int z) ∧ ¬ z = 0 ∧ 0 < A.slots.size ∧ A.slots.size ≤ 536870912 ∧ ∀ i, i < A.slots.size → ¬ 255 < cv A i
def E (a : Addr) (D : Cell) (fV fC : Field) (A : Cell) (r : Option Value) (s u : State) : Prop := Got a D fV fC A 0 A.slots.size r s u
/-- new String(chars), not empty, no char above 255: a Latin-1 String of their low bytes -/
theorem law (l : Launch) (a : Addr) (D : Cell) (fV fC : Field) (b : Addr) (A : Cell) (z : Int32) : Law l yN 2 1 3 52 yB 2 none site (P a D fV fC b A z) (E a D fV fC A) [⟨a, fC.slot⟩, ⟨a, fV.slot⟩] 1 A.slots.size := by
  refine Law.of_walk (plainFor_of_name (by decide +kernel)) (by decide +kernel) (by decide +kernel) (by decide) (fun _ _ h => by rw [h.1]; rfl) (fun _ U U' hal hh h => ⟨h.1, h.2.1.mv hal hh, h.2.2.1.al hal, h.2.2.2.1.al hal, h.2.2.2.2.1.mv hal hh, h.2.2.2.2.2.1.there hal hh, h.2.2.2.2.2.2⟩) (fun r U U' V V' h1 hal h2 h => Got.mv r U U' V V' h1 hal h2 h) ?_
  intro p e s m args below meth c s₁ X0 hexec hbytes hml hret hlk hnm hown hh0 W hP
  obtain ⟨rfl, hB, f1, f2, hA, s1, hz, l0, l2, hp⟩ := hP
  have c1 : Steps p.tables e below (s₁.setTop (entryFrame m #[.ref a, .ref b] 2)) (s₁.setTop (mkF m 0 #[.val (.ref a), .val (.ref b)] [])) := entry rfl
  have c2 : Steps p.tables e below (s₁.setTop (entryFrame m #[.ref a, .ref b] 2)) (s₁.setTop (mkF m 6 #[.val (.ref a), .val (.ref b)] [.null, .int (Int32.ofNat A.slots.size), .int 0, .ref b, .ref a])) := c1.trans (by
    refine XS.aloadN X0.here hexec rfl (hb hbytes d0) rfl rfl ?_
    refine XS.aloadN X0.here hexec rfl (hb hbytes d1) rfl rfl ?_
    refine iconstV X0.here hexec rfl 0 (hb hbytes d2) (by decide) ?_
    refine XS.aloadN X0.here hexec rfl (hb hbytes d3) rfl rfl ?_
    refine X0.alen hexec (hA.1.mv X0.warmed.alike hh0) rfl rfl (hb hbytes d4) ?_
    refine XS.aconstNull X0.here hexec rfl (hb hbytes d5) ?_
    exact Steps.refl _)
  obtain ⟨v3, T3, X3, E3, g3⟩ := X0.callN hexec (New4.law l a D fV fC b A z 0 A.slots.size) rfl hown (wks W (initW "java/lang/String" 27 New4.yN)) (W New4.tab (by simp only [site, List.mem_cons, List.mem_append, true_or, or_true])) (W := 0) (Nat.le_of_ble_eq_true rfl) (Nat.le_of_ble_eq_true rfl) (Nat.le_refl _) (by show 0 + A.slots.size ≤ A.slots.size; omega) (g := (mkF m 6 #[.val (.ref a), .val (.ref b)] [.null, .int (Int32.ofNat A.slots.size), .int (Int32.ofNat 0), .ref b, .ref a])) rfl (by rw [hml]; rfl) c2 (argsL := [.ref b, .int (Int32.ofNat 0), .int (Int32.ofNat A.slots.size), .null]) (rest := []) rfl rfl (by show 2 * 0 + 0 ≤ _; decide) (hb hbytes d6) (⟨rfl, hB.mv X0.warmed.alike hh0, f1.al X0.warmed.alike, f2.al X0.warmed.alike, hA.mv X0.warmed.alike hh0, s1.there X0.warmed.alike hh0, hz, l0, by omega, l2, fun i hi => by rw [Nat.zero_add]; exact hp i hi⟩)
  have e0 := Got.mv _ s₁ s _ _ hh0.symm (Vm.Alike.refl _) rfl E3
  obtain rfl := e0.1
  have c4 : Steps p.tables e below (s₁.setTop (entryFrame m #[.ref a, .ref b] 2)) (T3.setTop (mkF m 9 #[.val (.ref a), .val (.ref b)] [])) := g3
  exact ⟨T3, none, _, _, _, X3, by simp, rfl, by omega, (fun _ => rfl), e0, fun fs hl => c4.trans (X3.returnOut hexec hret (hb hbytes d9) hl)⟩
theorem pays {l : Launch} {R : Room} {p : Program} {e : Env} {below : List Frame} {s : State} {sargs : Array Value} {len W : Nat} (a : Addr) (D : Cell) (fV fC : Field) (b : Addr) (A : Cell) (z : Int32) (htab : tab.before sargs s = true) (hfr : 4 ≤ R.frames) (hlo : W + 65 ≤ R.locals) :
    Back l R p e below s sargs yN len W (fun A₁ a₁ => A₁.cells + 1 ≤ R.cells ∧ A₁.slots + A.slots.size ≤ R.slots ∧ P a D fV fC b A z a₁ A₁.U) (fun A₁ _ v₁ B₁ => E a D fV fC A v₁ A₁.U B₁.U ∧ B₁.locs = A₁.locs ++ [⟨a, fC.slot⟩, ⟨a, fV.slot⟩] ∧ B₁.cells = A₁.cells + 1 ∧ B₁.slots = A₁.slots + A.slots.size) :=
  (law l a D fV fC b A z).pays htab hfr (by omega)
end New1
/-- the byte, read back as charAt reads it, is the char -/
theorem lo8_mask {x : Int32} (h0 : ¬ x < 0) (h1 : ¬ 255 < x) : lo8 x &&& 255 = x := by
  have t : ∀ k : Fin 256, lo8 (Int32.ofNat k.val) &&& 255 = Int32.ofNat k.val := by decide +kernel
  rw [Int32.lt_iff_toInt_lt] at h0 h1
  have e0 : (0 : Int32).toInt = 0 := rfl
  have e1 : (255 : Int32).toInt = 255 := rfl
  obtain ⟨k, hk⟩ : ∃ k : Nat, x.toInt = k := ⟨x.toInt.toNat, by omega⟩
  have hx : x = Int32.ofNat k := Int32.toInt_inj.mp (by rw [hk, Int32.toInt_ofNat_small (by omega)])
  rw [hx]
  exact t ⟨k, by omega⟩
end StrChars
namespace StrChars.Road
open Jvm Sem ClassFile Op Lib Jvm.Stand Jvm.Free Jvm.Free.XT
open Jvm.Lib.Cold (StaticIs)
abbrev ST : String := "java/lang/String"
/-- every table word that New1's law asks, flat -/
abbrev words : List Jvm.Cond := [.code New1.yN New1.yB 2 none, .initialized ST, .methodLink ST 27 New4.yN, .instanceMethod New4.yN,
  .code New4.yN New4.yB 6 none, .fieldLink ST 38 ST "COMPACT_STRINGS" "Z", .laysFinal ST ST "value" "[B", .fieldLink ST 9 ST "value" "[B", .laysFinal ST ST "coder" "B", .fieldLink ST 15 ST "coder" "B",
  .methodLink ST 1 Lib.objectInit, .instanceMethod Lib.objectInit, .code Lib.objectInit ⟨#[0xb1]⟩ 1 none, .methodLink ST 177 Cmp3.yN, .static Cmp3.yN, .methodLink ST 47 CodL.yN, .static CodL.yN,
  .code Cmp3.yN Cmp3.yB 6 (some (.array .byte)), .initialized U16, .arrayClass .byte, .methodLink U16 115 Cmp5.yN, .static Cmp5.yN, .code Cmp5.yN Cmp5.yB 7 (some .int), .code CodL.yN CodL.yB 2 (some .byte)]
theorem tab_of {a : Array Value} {s : State} (h : ∀ w ∈ words, w.before a s = true) : New1.tab.before a s = true := by
  have h5 : Cmp5.tab.before a s = true := unparts (wk h (.code Cmp5.yN Cmp5.yB 7 (some .int))) (wks h (.initialized Cmp5.yN.cls :: Cmp5.site))
  have hc : CodL.tab.before a s = true := unparts (wk h (.code CodL.yN CodL.yB 2 (some .byte))) (wks h (.initialized CodL.yN.cls :: CodL.site))
  have q5 : ∀ w ∈ Cmp5.tab :: words, w.before a s = true := fun w hw => (List.mem_cons.mp hw).elim (fun e => e ▸ h5) (h w)
  have h3 : Cmp3.tab.before a s = true := unparts (wk q5 (.code Cmp3.yN Cmp3.yB 6 (some (.array .byte)))) (wks q5 (.initialized Cmp3.yN.cls :: Cmp3.site))
  have q3 : ∀ w ∈ Cmp3.tab :: CodL.tab :: words, w.before a s = true := fun w hw => (List.mem_cons.mp hw).elim (fun e => e ▸ h3) fun hw => (List.mem_cons.mp hw).elim (fun e => e ▸ hc) (h w)
  have h4 : New4.tab.before a s = true := unparts (wk q3 (.code New4.yN New4.yB 6 none)) (wks q3 (.initialized New4.yN.cls :: New4.site))
  have q4 : ∀ w ∈ New4.tab :: words, w.before a s = true := fun w hw => (List.mem_cons.mp hw).elim (fun e => e ▸ h4) (h w)
  exact unparts (wk q4 (.code New1.yN New1.yB 2 none)) (wks q4 (.initialized New1.yN.cls :: New1.site))
/-- the words ride from the start Z to the walk's own state -/
theorem moved {Z s : State} {a0 args : Array Value} (hZ : Z.Warmed39 s.vm) (hw : ∀ d ∈ words, d.before a0 Z = true) : ∀ d ∈ words, d.before args s = true := fun d hd => by
  have q := hw d hd
  have t : ∀ d ∈ words, d = .arrayClass .byte ∨ (d.onTables && d.keepsFace) = true := by decide +kernel
  rcases t d hd with rfl | t
  · exact RoadKit.mvA hZ q
  · exact RoadKit.mv hZ q t
/-- WHAT COMES BACK, over the tables of the start Z: h the heap at the call, h' behind it -/
def Q (Z : State) (x : Addr) (A : Cell) (h : Heap) (v : Option Value) (h' : Heap) (L : List Loc) : Prop := v = none ∧ (∀ y ∈ L, y.base = x) ∧ RoadKit.Keep h h' [x] ∧ h'.size = h.size + 1 ∧ RoadKit.Exa Z h' x ST ∧ RoadKit.Fld Z h' x ST "value" "[B" (.ref h.size) ∧ RoadKit.Fld Z h' x ST "coder" "B" (.int 0) ∧
  (∃ V : Cell, RoadKit.Arr Z h' h.size V .byte ∧ V.vm = .none ∧ Z.vm.findClass "[B" = some V.cls ∧ V.slots.size = A.slots.size ∧ ∀ j, j < A.slots.size → V.slots[j]? = some (.int (lo8 (cv A j)))) ∧
  ∀ (O n d : String) (w : Value), RoadKit.Fld Z h x O n d w → RoadKit.slotOf Z O n d ≠ RoadKit.slotOf Z ST "value" "[B" → RoadKit.slotOf Z O n d ≠ RoadKit.slotOf Z ST "coder" "B" → RoadKit.Fld Z h' x O n d w
/-- **new String(chars) AT A CALL, IN THE ROAD'S FORM**: for specialBack behind newO: x the fresh String, b the char[] with the cell A -/
theorem back {p : Program} {l : Launch} {e : Env} {R : Room} {s : State} {args : Array Value} {below : List Frame} {len W : Nat} {Z : State} {a0 : Array Value} {h : Heap} (hZ : Z.Warmed39 s.vm) (hw : ∀ d ∈ words, d.before a0 Z = true) {kI : Nat} (wi : (Jvm.Cond.instantiable ST kI).before a0 Z = true)
    {x b : Addr} {A : Cell} {z : Int32} {v0 c0 : Value} (E : RoadKit.Exa Z h x ST) (V : RoadKit.Fld Z h x ST "value" "[B" v0) (C : RoadKit.Fld Z h x ST "coder" "B" c0) (K : RoadKit.Arr Z h b A .char) (hty : Typed .char A) (S : RoadKit.Sta Z h ST "COMPACT_STRINGS" "Z" (.int z)) (hz : ¬ z = 0)
    (l0 : 0 < A.slots.size) (l2 : A.slots.size ≤ 536870912) (hp : ∀ i, i < A.slots.size → ¬ 255 < cv A i) (hfr : 4 ≤ R.frames) (hlo : W + 65 ≤ R.locals) :
    Back l R p e below s args New1.yN len W (fun P a => a = #[.ref x, .ref b] ∧ P.U.heap = h ∧ P.cells + 1 ≤ R.cells ∧ P.slots + A.slots.size ≤ R.slots)
      (fun P _ v B => ∃ L, Q Z x A h v B.U.heap L ∧ B.locs = P.locs ++ L ∧ B.cells = P.cells + 1 ∧ B.slots = P.slots + A.slots.size) := by
  intro m meth c P g ig mk a X hg hsize hdg hW hn hp'
  obtain ⟨rfl, rfl, r1, r2⟩ := hp'
  have al : Z.vm.Alike P.U.vm := hZ.alike.trans X.warmed.alike
  obtain ⟨D, cfV, kV, iV, fV, hD, gV, stV, knV, obV, asV, slV⟩ := id V
  obtain ⟨D', cfC, kC, iC, fC, hD', gC, stC, -, -, asC, slC⟩ := id C
  cases hD.symm.trans hD'
  obtain ⟨D2, kD, e1, e2, e3, e4, e5⟩ := id E
  cases hD.symm.trans e1
  obtain ⟨c2, k2, i1, i2, i3, -⟩ := Cond.instantiable_spec wi
  cases e2.symm.trans i1
  cases e3.symm.trans i2
  obtain ⟨kU, u1, u2⟩ := al.2.2 _ _ e3
  have hB : Blank ST x D P.U := ⟨hD, ⟨knV, fun q hq => by rw [hq] at obV; cases obV⟩, by rw [al.findClass]; exact e2, kU, u1, by rw [u2]; exact i3, by rw [u2]; exact e5 i3⟩
  have F1 : Found ST "value" "[B" fV P.U := ⟨SBG.found_only al ⟨cfV, kV, iV, gV⟩, stV⟩
  have F2 : Found ST "coder" "B" fC P.U := ⟨SBG.found_only al ⟨cfC, kC, iC, gC⟩, stC⟩
  have hA : Ch b A P.U := ⟨⟨K.1, State.isArrayOf_alike al K.2.1, K.2.2, by omega⟩, hty⟩
  have hS : StaticIs P.U ST "COMPACT_STRINGS" "Z" (.int z) := by
    obtain ⟨cfS, iS, kS, fS, st, cS, t1, t2, t3, t4, t5, t6, t7⟩ := S
    exact StaticIs.there (s := { Z with heap := P.U.heap }) ⟨cfS, iS, kS, fS, st, cS, t1, t2, t3, t4, t5, (fun q => by rw [q] at t6; cases t6), t7⟩ al rfl
  obtain ⟨v, B, X', ⟨⟨hv, E', V', q1, q2, q3, q4, q5, q6, q7, q8, q9, q10, q11⟩, hl, hc, hs⟩, st⟩ := New1.pays x D fV fC b A z (tab_of (moved hZ hw)) hfr hlo m meth c P g ig mk _ X hg hsize hdg hW hn ⟨r1, r2, rfl, hB, F1, F2, hA, hS, hz, l0, l2, hp⟩
  have al' : Z.vm.Alike B.U.vm := hZ.alike.trans X'.warmed.alike
  have hsz : E'.slots.size = D.slots.size := by
    obtain ⟨-, -, -, kB, w1, w2, w3⟩ := q1
    obtain ⟨kB', y1, y2⟩ := al'.2.2 _ _ e3
    rw [q2.2.1] at w1
    cases w1.symm.trans y1
    rw [w3, e5 i3, y2]
  refine ⟨v, B, X', ⟨_, ⟨hv, ?_, ⟨by omega, fun y cy hy hn' => q10 y cy (by simpa using hn') hy, fun y cy hy => ?_⟩, q11, ⟨E', _, q1.1, by rw [q2.2.1]; exact e2, by rw [q2.2.1]; exact e3, by rw [q2.1]; exact obV, fun _ => by rw [hsz]; exact e5 i3⟩,
    ⟨E', cfV, kV, iV, fV, q1.1, gV, stV, by rw [q2.1]; exact knV, by rw [q2.1]; exact obV, by rw [q2.2.1]; exact asV, q3⟩, ⟨E', cfC, kC, iC, fC, q1.1, gC, stC, by rw [q2.1]; exact knV, by rw [q2.1]; exact obV, by rw [q2.2.1]; exact asC, q4⟩,
    ⟨V', ⟨q5.1, State.isArrayOf_alike al'.symm q5.2.1, q5.2.2.1⟩, q6, by rw [← al'.findClass]; exact q7, q8, fun j hj => by have := q9 j hj; rwa [Nat.zero_add] at this⟩, fun O n d w F n1 n2 => ?_⟩, hl, hc, hs⟩, st⟩
  · intro y hy
    simp only [List.mem_cons, List.not_mem_nil, or_false] at hy
    rcases hy with rfl | rfl <;> rfl
  · by_cases q : y = x
    · subst q
      cases hD.symm.trans hy
      exact ⟨E', q1.1, q2.2.1, q2.1, hsz⟩
    · exact ⟨cy, q10 y cy q hy, rfl, rfl, rfl⟩
  · obtain ⟨D3, cf, k, i, f, g1, g2, g3, g4, g5, g6, g7⟩ := F
    cases hD.symm.trans g1
    simp only [RoadKit.slotOf, g2, gV, gC, Option.map_some, Option.getD_some] at n1 n2
    exact ⟨E', cf, k, i, f, q1.1, g2, g3, by rw [q2.1]; exact g4, by rw [q2.1]; exact g5, by rw [q2.2.1]; exact g6, by rw [q2.2.2 f.slot (by simp [n1, n2])]; exact g7⟩
end StrChars.Road
namespace StrChars.Road
open Jvm Sem ClassFile Op Lib Jvm.Stand Jvm.Free Jvm.Free.XT
/-- WHAT COMES BACK, the byte[] as a list of values -/
def QA (Z : State) (x : Addr) (zn : Int32) (cs : List Int32) (h : Heap) (v : Option Value) (h' : Heap) (L : List Loc) : Prop := v = none ∧ (∀ y ∈ L, y.base = x) ∧ RoadKit.Keep h h' [x] ∧ h'.size = h.size + 1 ∧ RoadKit.Exa Z h' x ST ∧ RoadKit.Fld Z h' x ST "value" "[B" (.ref h.size) ∧ RoadKit.Fld Z h' x ST "coder" "B" (.int 0) ∧
  (∃ kb, Z.vm.findClass "[B" = some kb ∧ RoadKit.Arv Z h' h.size kb .byte zn (cs.map fun c => .int (lo8 c)) (.int 0)) ∧
  ∀ (O n d : String) (w : Value), RoadKit.Fld Z h x O n d w → RoadKit.slotOf Z O n d ≠ RoadKit.slotOf Z ST "value" "[B" → RoadKit.slotOf Z O n d ≠ RoadKit.slotOf Z ST "coder" "B" → RoadKit.Fld Z h' x O n d w
/-- **new String(chars) AT A CALL, THE ARRAYS AS LISTS**: the char[] at b holds cs, not empty, no char above 255 -/
theorem backArv {p : Program} {l : Launch} {e : Env} {R : Room} {s : State} {args : Array Value} {below : List Frame} {len W : Nat} {Z : State} {a0 : Array Value} {h : Heap} (hZ : Z.Warmed39 s.vm) (hw : ∀ d ∈ words, d.before a0 Z = true) {kI : Nat} (wi : (Jvm.Cond.instantiable ST kI).before a0 Z = true)
    {x b : Addr} {k : ClassId} {zn z : Int32} {cs : List Int32} {dv v0 c0 : Value} (E : RoadKit.Exa Z h x ST) (V : RoadKit.Fld Z h x ST "value" "[B" v0) (C : RoadKit.Fld Z h x ST "coder" "B" c0) (K : RoadKit.Arv Z h b k .char zn (cs.map Value.int) dv) (S : RoadKit.Sta Z h ST "COMPACT_STRINGS" "Z" (.int z)) (hz : ¬ z = 0)
    (hlen : zn.toNatClampNeg = cs.length) (h0 : 0 < cs.length) (hbig : cs.length ≤ 536870912) (hall : ∀ c ∈ cs, ¬ 255 < c) (hfr : 4 ≤ R.frames) (hlo : W + 65 ≤ R.locals) :
    Back l R p e below s args New1.yN len W (fun P a => a = #[.ref x, .ref b] ∧ P.U.heap = h ∧ P.cells + 1 ≤ R.cells ∧ P.slots + cs.length ≤ R.slots)
      (fun P _ v B => ∃ L, QA Z x zn cs h v B.U.heap L ∧ B.locs = P.locs ++ L ∧ B.cells = P.cells + 1 ∧ B.slots = P.slots + cs.length) := by
  obtain ⟨A, K1, K2, K3, K4, K5, K6⟩ := K
  have e : A.slots.size = cs.length := K3.trans hlen
  have hat : ∀ (i : Nat) (hi : i < cs.length), A.slots[i]? = some (.int cs[i]) := fun i hi => by rw [K5 i (by omega)]; simp [List.getD_eq_getElem?_getD, hi]
  have hcv : ∀ (i : Nat) (hi : i < cs.length), cv A i = cs[i] := fun i hi => by unfold cv; rw [hat i hi]
  have hty : Typed .char A := fun i v hv => by
    have hi : i < A.slots.size := (Array.getElem?_eq_some_iff.mp hv).1
    have q := K5 i hi
    rw [hv] at q
    rw [Option.some.inj q]
    exact K6 i hi
  refine Back.mono (back hZ hw wi E V C K1 hty S hz (by omega) (by omega) (fun i hi => by rw [hcv i (by omega)]; exact hall _ (List.getElem_mem _)) hfr hlo) (fun P a hp => ⟨hp.1, hp.2.1, hp.2.2.1, by rw [e]; exact hp.2.2.2⟩) (fun P a v B hp hq => ?_)
  obtain ⟨L, ⟨q1, q2, q3, q4, q5, q6, q7, ⟨V', v1, v2, v3, v4, v5⟩, q9⟩, hl, hc, hs⟩ := hq
  refine ⟨L, ⟨q1, q2, q3, q4, q5, q6, q7, ⟨V'.cls, v3, V', v1, rfl, by rw [v4, e, hlen], K4, fun i hi => ?_, fun i hi => ?_⟩, q9⟩, hl, hc, by rw [hs, e]⟩
  · have hi' : i < cs.length := by omega
    rw [v5 i (by omega), hcv i hi']; simp [List.getD_eq_getElem?_getD, hi']
  · have hi' : i < cs.length := by omega
    simp only [List.getD_eq_getElem?_getD, List.getElem?_map, List.getElem?_eq_getElem hi', Option.map_some, Option.getD_some]
    exact fits_lo8 _
end StrChars.Road
namespace StrChars.Road
open Jvm Sem ClassFile Op Lib Jvm.Stand Jvm.Free Jvm.Free.XT
/-- WHAT COMES BACK, in the writer's own shape -/
def QV (Z : State) (x : Addr) (N : Int32) (bs : List Int32) (h : Heap) (n0 : Nat) (v : Option Value) (h' : Heap) (L : List Loc) : Prop := v = none ∧ RoadKit.Fr n0 L ∧ RoadKit.Keep h h' [x] ∧ RoadKit.Exa Z h' x ST ∧ RoadKit.Fld Z h' x ST "coder" "B" (.int 0) ∧
  ∃ (t : Addr) (kb : ClassId), n0 ≤ t ∧ h.size ≤ t ∧ ¬ t = x ∧ RoadKit.Fld Z h' x ST "value" "[B" (.ref t) ∧ RoadKit.Arv Z h' t kb .byte N (bs.map Value.int) (.int 0)
/-- **new String(chars) AT A CALL, FOR THE WRITER**: a char[] of n known ints, each 0 to 255 -/
theorem backV {p : Program} {l : Launch} {e : Env} {R : Room} {s : State} {args : Array Value} {below : List Frame} {len W : Nat} {Z : State} {a0 : Array Value} {h : Heap} (hZ : Z.Warmed39 s.vm) (hw : ∀ d ∈ words, d.before a0 Z = true) {kI : Nat} (wi : (Jvm.Cond.instantiable ST kI).before a0 Z = true)
    {x b : Addr} {kC : ClassId} {cs bs : List Int32} {d v0 c0 : Value} {z N : Int32} {n n0 : Nat} (hx0 : n0 ≤ x) (hh0 : n0 ≤ h.size) (E : RoadKit.Exa Z h x ST) (V : RoadKit.Fld Z h x ST "value" "[B" v0) (C : RoadKit.Fld Z h x ST "coder" "B" c0) (K : RoadKit.Arv Z h b kC .char N (cs.map Value.int) d) (S : RoadKit.Sta Z h ST "COMPACT_STRINGS" "Z" (.int z)) (hz : ¬ z = 0)
    (hn : cs.length = n) (hN : N = Int32.ofNat n) (l0 : 0 < n) (l2 : n ≤ 4000) (hp : ∀ c ∈ cs, ¬ c < 0 ∧ ¬ (255 : Int32) < c) (hb : bs = cs.map (fun c => c.toInt8.toInt32)) (hfr : 4 ≤ R.frames) (hlo : W + 65 ≤ R.locals) :
    Back l R p e below s args (⟨"java/lang/String", "<init>", "([C)V"⟩ : MethodName) len W (fun P a => a = #[.ref x, .ref b] ∧ P.U.heap = h ∧ P.cells + 1 ≤ R.cells ∧ P.slots + n ≤ R.slots)
      (fun P _ v B => ∃ L, QV Z x N bs h n0 v B.U.heap L ∧ B.locs = P.locs ++ L ∧ B.cells = P.cells + 1 ∧ B.slots = P.slots + n) := by
  subst hn hN hb
  refine Back.mono (backArv hZ hw wi E V C K S hz (n32 (by omega)) l0 (by omega) (fun c hc => (hp c hc).2) hfr hlo) (fun P a hp => hp) (fun P a v B hp hq => ?_)
  obtain ⟨L, ⟨q1, q2, q3, q4, q5, q6, q7, ⟨kb, v1, v2⟩, q9⟩, hl, hc, hs⟩ := hq
  exact ⟨L, ⟨q1, fun y hy => by rw [q2 y hy]; exact hx0, q3, q5, q7, h.size, kb, hh0, Nat.le_refl _, Nat.ne_of_gt E.lt, q6, by rw [List.map_map]; exact v2⟩, hl, hc, hs⟩
end StrChars.Road
namespace StrChars
open Jvm Sem ClassFile Op Lib Jvm.Stand Jvm.Free.XT Jvm.Free.ALB Jvm.Free.JM Jvm.Free
open Jvm.Lib.Cold (StaticIs)
def hi8 (x : Int32) : Int32 := lo8 (x >>> ((8 : Int32) &&& 31))
/-- what StringUTF16.getChar makes of two bytes -/
def pairCh (u v : Int32) : Int32 := (((u &&& 255) <<< ((0 : Int32) &&& 31)) ||| ((v &&& 255) <<< ((8 : Int32) &&& 31))).toUInt32.toUInt16.toUInt32.toInt32
theorem shr0 (c : Int32) : c >>> ((0 : Int32) &&& 31) = c := by
  have e : ((0 : Int32) &&& 31) = 0 := by decide
  rw [e]
  apply Int32.toBitVec_inj.mp
  rw [Int32.toBitVec_shiftRight]
  have e1 : ((0 : Int32).toBitVec.smod 32) = 0#32 := by decide
  rw [e1, BitVec.sshiftRight_eq']
  exact BitVec.sshiftRight_zero
theorem lo8_and (x : Int32) : (lo8 x &&& 255).toBitVec.toNat = x.toBitVec.toNat % 256 := by
  have h : (lo8 x).toBitVec = (x.toBitVec.signExtend 8).signExtend 32 := by rw [lo8, Int8.toBitVec_toInt32, Int32.toBitVec_toInt8]
  rw [Int32.toBitVec_and, BitVec.toNat_and, h]
  have e : ((x.toBitVec.signExtend 8).signExtend 32).toNat % 256 = x.toBitVec.toNat % 256 := by
    rw [BitVec.toNat_signExtend]
    have hlt := x.toBitVec.isLt
    simp only [BitVec.toNat_setWidth, BitVec.toNat_signExtend]
    split <;> split <;> omega
  rw [← e]
  exact Nat.and_two_pow_sub_one_eq_mod _ 8
theorem pair_says {c : Int32} (h0 : ¬ c < 0) (h1 : ¬ 65535 < c) : pairCh (lo8 c) (hi8 c) = c := by
  rw [Int32.lt_iff_toInt_lt] at h0 h1
  have e0 : (0 : Int32).toInt = 0 := rfl
  have e1 : (65535 : Int32).toInt = 65535 := rfl
  have hc : c.toInt = c.toBitVec.toNat := by
    have := c.toBitVec.isLt
    have e : c.toInt = c.toBitVec.toInt := rfl
    rw [e] at h0 h1
    rw [e]
    rw [BitVec.toInt_eq_toNat_cond] at h0 h1 ⊢
    split at h0 <;> split <;> omega
  have hn : c.toBitVec.toNat < 65536 := by omega
  have a1 := lo8_and c
  have a2 : (hi8 c &&& 255).toBitVec.toNat = c.toBitVec.toNat / 256 := by
    rw [hi8, lo8_and]
    have e : ((8 : Int32) &&& 31) = 8 := by decide
    rw [e, Int32.toBitVec_shiftRight]
    have e2 : ((8 : Int32).toBitVec.smod 32) = 8#32 := by decide
    rw [e2, BitVec.sshiftRight_eq', BitVec.toNat_sshiftRight_of_msb_false (by rw [BitVec.msb_eq_false_iff_two_mul_lt]; omega)]
    show c.toBitVec.toNat >>> 8 % 256 = _
    rw [Nat.shiftRight_eq_div_pow]
    omega
  unfold pairCh
  apply Int32.toBitVec_inj.mp
  apply BitVec.eq_of_toNat_eq
  have f0 : ((0 : Int32) &&& 31) = 0 := by decide
  have f8 : ((8 : Int32) &&& 31) = 8 := by decide
  rw [f0, f8]
  have g : (((lo8 c &&& 255) <<< (0 : Int32)) ||| ((hi8 c &&& 255) <<< (8 : Int32))).toBitVec.toNat = c.toBitVec.toNat := by
    rw [Int32.toBitVec_or, Int32.toBitVec_shiftLeft, Int32.toBitVec_shiftLeft]
    have s0 : ((0 : Int32).toBitVec.smod 32) = 0#32 := by decide
    have s8 : ((8 : Int32).toBitVec.smod 32) = 8#32 := by decide
    rw [s0, s8, BitVec.toNat_or]
    simp only [BitVec.shiftLeft_eq', BitVec.toNat_shiftLeft, a1, a2]
    show (c.toBitVec.toNat % 256) <<< 0 % 2 ^ 32 ||| (c.toBitVec.toNat / 256) <<< 8 % 2 ^ 32 = _
    rw [Nat.shiftLeft_zero, Nat.mod_eq_of_lt (show c.toBitVec.toNat % 256 < 2 ^ 32 by omega), Nat.mod_eq_of_lt (show (c.toBitVec.toNat / 256) <<< 8 < 2 ^ 32 by rw [Nat.shiftLeft_eq]; omega), Nat.or_comm, ← Nat.shiftLeft_add_eq_or_of_lt (by omega), Nat.shiftLeft_eq]
    omega
  show BitVec.toNat (((((lo8 c &&& 255) <<< (0 : Int32)) ||| ((hi8 c &&& 255) <<< (8 : Int32))).toBitVec.setWidth 16).setWidth 32) = _
  rw [BitVec.toNat_setWidth, BitVec.toNat_setWidth, g]
  omega
end StrChars
namespace StrChars
open Jvm Sem ClassFile Op Lib Jvm.Stand Jvm.Free.XT Jvm.Free.ALB Jvm.Free.JM Jvm.Free
open Jvm.Lib.Cold (StaticIs)
theorem shr1 {n : Nat} (h : 2 * n < 2 ^ 31) : Int32.ofNat (2 * n) >>> ((1 : Int32) &&& 31) = Int32.ofNat n := by
  have e : ((1 : Int32) &&& 31) = 1 := by decide
  rw [e]
  apply Int32.toBitVec_inj.mp
  rw [Int32.toBitVec_shiftRight]
  have e1 : ((1 : Int32).toBitVec.smod 32) = 1#32 := by decide
  have hm : (BitVec.ofNat 32 (2 * n)).toNat = 2 * n := by rw [BitVec.toNat_ofNat, Nat.mod_eq_of_lt (by omega)]
  rw [e1, BitVec.sshiftRight_eq']
  apply BitVec.eq_of_toNat_eq
  show ((BitVec.ofNat 32 (2 * n)).sshiftRight 1).toNat = (BitVec.ofNat 32 n).toNat
  rw [BitVec.toNat_sshiftRight_of_msb_false (by rw [BitVec.msb_eq_false_iff_two_mul_lt, hm]; omega), hm, BitVec.toNat_ofNat, Nat.shiftRight_eq_div_pow]
  omega
/-- charAt's cast of a byte read back -/
def chr8 (u : Int32) : Int32 := (u &&& 255).toUInt32.toUInt16.toUInt32.toInt32
theorem chr8_lo8 {c : Int32} (h0 : ¬ c < 0) (h1 : ¬ 255 < c) : chr8 (lo8 c) = c := by
  have t : ∀ k : Fin 256, (Int32.ofNat k.val).toUInt32.toUInt16.toUInt32.toInt32 = Int32.ofNat k.val := by decide +kernel
  unfold chr8
  rw [lo8_mask h0 h1]
  rw [Int32.lt_iff_toInt_lt] at h0 h1
  have e0 : (0 : Int32).toInt = 0 := rfl
  have e1 : (255 : Int32).toInt = 255 := rfl
  obtain ⟨k, hk⟩ : ∃ k : Nat, c.toInt = k := ⟨c.toInt.toNat, by omega⟩
  have hx : c = Int32.ofNat k := Int32.toInt_inj.mp (by rw [hk, Int32.toInt_ofNat_small (by omega)])
  rw [hx]
  exact t ⟨k, by omega⟩
theorem narrow_ch {c : Int32} (h0 : ¬ c < 0) (h1 : ¬ 65535 < c) : narrow .char (.int c) = .int c := by
  have q : narrow .char (.int (pairCh (lo8 c) (hi8 c))) = .int (pairCh (lo8 c) (hi8 c)) := narrow_c _
  rwa [pair_says h0 h1] at q
/-- the array's cell V codes the n chars f 0 .. f (n - 1) by the coder cd, as the JDK does: coder 1 just where some char is above 255 -/
def Cod (cd : Int32) (n : Nat) (f : Nat → Int32) (V : Cell) : Prop := (cd = 0 ∧ V.slots.size = n ∧ ∀ j, j < n → V.slots[j]? = some (.int (lo8 (f j))) ∧ ¬ 255 < f j) ∨ (cd = 1 ∧ V.slots.size = 2 * n ∧ (∀ j, j < n → V.slots[2 * j]? = some (.int (lo8 (f j))) ∧ V.slots[2 * j + 1]? = some (.int (hi8 (f j)))) ∧ ∃ j, j < n ∧ 255 < f j)
theorem Cod.cd {cd : Int32} {n : Nat} {f : Nat → Int32} {V : Cell} (h : Cod cd n f V) : cd = 0 ∨ cd = 1 := h.imp (fun q => q.1) fun q => q.1
theorem Cod.len {cd : Int32} {n : Nat} {f : Nat → Int32} {V : Cell} (h : Cod cd n f V) (hs : V.slots.size < 2 ^ 31) : Int32.ofNat V.slots.size >>> (cd &&& 31) = Int32.ofNat n := by
  rcases h with ⟨rfl, h, -⟩ | ⟨rfl, h, -⟩
  · rw [shr0, h]
  · rw [h, shr1 (by omega)]
/-- **x is a String of the n chars f 0 .. f (n - 1)**, Latin-1 or UTF-16; its array at t has the cell V -/
def Txt (x t : Addr) (V : Cell) (cd : Int32) (n : Nat) (f : Nat → Int32) (U : State) : Prop := Exact "java/lang/String" x U ∧ Has x "java/lang/String" "value" "[B" (.ref t) U ∧ Has x "java/lang/String" "coder" "B" (.int cd) U ∧ XT.Arr .byte t V U ∧ Cod cd n f V ∧ ∀ j, j < n → ¬ f j < 0 ∧ ¬ 65535 < f j
theorem Txt.mv {x t : Addr} {V : Cell} {cd : Int32} {n : Nat} {f : Nat → Int32} {U U' : State} (h : Txt x t V cd n f U) (hal : U.vm.Alike U'.vm) (hh : U'.heap = U.heap) : Txt x t V cd n f U' := ⟨h.1.mv hal hh, h.2.1.mv hal hh, h.2.2.1.mv hal hh, h.2.2.2.1.mv hal hh, h.2.2.2.2⟩
namespace Cdr
def yN : MethodName := ⟨"java/lang/String", "coder", "()B"⟩
abbrev yB : ByteArray := jdk_42_method_152_code
theorem d0 : decode yB 0 = .ok (.getstatic 38, 3) := by decide +kernel
theorem d3 : decode yB 3 = .ok (.ifCond (.eq) 10, 3) := by decide +kernel
theorem d6 : decode yB 6 = .ok (.aload_n 0, 1) := by decide +kernel
theorem d7 : decode yB 7 = .ok (.getfield 15, 3) := by decide +kernel
theorem d10 : decode yB 10 = .ok (.goto 4, 3) := by decide +kernel
theorem d14 : decode yB 14 = .ok (.ireturn, 1) := by decide +kernel
def site : List Cond := [.fieldLink "java/lang/String" 38 "java/lang/String" "COMPACT_STRINGS" "Z", .fieldLink "java/lang/String" 15 "java/lang/String" "coder" "B"]
def tab : Cond := tabOf yN yB 1 (some .byte) site
def P (x : Addr) (cd z : Int32) (args : Array Value) (s : State) : Prop := args = #[.ref x] ∧ Has x "java/lang/String" "coder" "B" (.int cd) s ∧ (cd = 0 ∨ cd = 1) ∧ StaticIs s "java/lang/String" "COMPACT_STRINGS" "Z" (.int z) ∧ ¬ z = 0
def E (cd : Int32) (r : Option Value) (s u : State) : Prop := XT.PureE (some (.int cd)) r s u
theorem law (l : Launch) (x : Addr) (cd z : Int32) : Law l yN 1 0 0 0 yB 1 (some .byte) site (P x cd z) (E cd) [] 0 0 := by
  refine Law.of_walk (plainFor_of_name (by decide +kernel)) (by decide +kernel) (by decide +kernel) (by decide) (fun _ _ h => by rw [h.1]; rfl) (fun _ U U' hal hh h => ⟨h.1, h.2.1.mv hal hh, h.2.2.1, h.2.2.2.1.there hal hh, h.2.2.2.2⟩) (fun r U U' V V' h1 hal h2 h => XT.PureE.mv r U U' V V' h1 hal h2 h) ?_
  intro p e s m args below meth c s₁ X0 hexec hbytes hml hret hlk hnm hown hh0 W hP
  obtain ⟨rfl, hx, hc, s1, hz⟩ := hP
  have c1 : Steps p.tables e below (s₁.setTop (entryFrame m #[.ref x] 1)) (s₁.setTop (mkF m 0 #[.val (.ref x)] [])) := entry rfl
  obtain ⟨T2, X2, q2, st2⟩ := X0.sget hexec hown (wk W (.fieldLink "java/lang/String" 38 "java/lang/String" "COMPACT_STRINGS" "Z")) s1 (fun _ _ h => by rw [hh0]; exact h) (g := (mkF m 0 #[.val (.ref x)] [])) rfl (hb hbytes d0)
  have hh2 := q2.trans hh0
  have c3 : Steps p.tables e below (s₁.setTop (entryFrame m #[.ref x] 1)) (T2.setTop (mkF m 7 #[.val (.ref x)] [.ref x])) := (c1.trans (st2 _ (Steps.refl _))).trans (by
    refine XS.ifNo X2.here hexec rfl (hb hbytes d3) rfl (i0_eq_f hz) ?_
    refine XS.aloadN X2.here hexec rfl (hb hbytes d6) rfl rfl ?_
    exact Steps.refl _)
  obtain ⟨T4, X4, q4, st4⟩ := X2.hget hexec hown (wk W (.fieldLink "java/lang/String" 15 "java/lang/String" "coder" "B")) (hx.mv X2.warmed.alike hh2) (g := (mkF m 7 #[.val (.ref x)] [.ref x])) rfl (rest := []) rfl (hb hbytes d7)
  have c5 : Steps p.tables e below (s₁.setTop (entryFrame m #[.ref x] 1)) (T4.setTop (mkF m 14 #[.val (.ref x)] [.int cd])) := (c3.trans (st4 _ (Steps.refl _))).trans (by
    refine XS.goto X4.here hexec rfl (pc0 := 10) rfl (hb hbytes d10) (by decide) rfl ?_
    exact Steps.refl _)
  exact ⟨T4, some (.int cd), _, _, _, X4, rfl, rfl, rfl, (fun h => by cases h), ⟨rfl, q4.trans hh2⟩, fun fs hl => c5.trans (X4.ireturnOut hexec hret (by rcases hc with rfl | rfl <;> rfl) (Or.inr (Or.inr (Or.inl rfl))) (hb hbytes d14) hl)⟩
end Cdr
namespace Len
def yN : MethodName := ⟨"java/lang/String", "length", "()I"⟩
abbrev yB : ByteArray := jdk_42_method_54_code
theorem d0 : decode yB 0 = .ok (.aload_n 0, 1) := by decide +kernel
theorem d1 : decode yB 1 = .ok (.getfield 9, 3) := by decide +kernel
theorem d4 : decode yB 4 = .ok (.arraylength, 1) := by decide +kernel
theorem d5 : decode yB 5 = .ok (.aload_n 0, 1) := by decide +kernel
theorem d6 : decode yB 6 = .ok (.invokevirtual 335, 3) := by decide +kernel
theorem d9 : decode yB 9 = .ok (.ishr, 1) := by decide +kernel
theorem d10 : decode yB 10 = .ok (.ireturn, 1) := by decide +kernel
def site : List Cond := [.fieldLink "java/lang/String" 9 "java/lang/String" "value" "[B", Cdr.tab] ++ virtW "java/lang/String" 335 "java/lang/String" Cdr.yN Cdr.yN
def tab : Cond := tabOf yN yB 1 (some .int) site
def P (x t : Addr) (V : Cell) (cd : Int32) (n : Nat) (f : Nat → Int32) (z : Int32) (args : Array Value) (s : State) : Prop := args = #[.ref x] ∧ Txt x t V cd n f s ∧ StaticIs s "java/lang/String" "COMPACT_STRINGS" "Z" (.int z) ∧ ¬ z = 0
def E (n : Nat) (r : Option Value) (s u : State) : Prop := XT.PureE (some (.int (Int32.ofNat n))) r s u
/-- length() of a String of n chars, in either coding -/
theorem law (l : Launch) (x t : Addr) (V : Cell) (cd : Int32) (n : Nat) (f : Nat → Int32) (z : Int32) : Law l yN 1 0 1 13 yB 1 (some .int) site (P x t V cd n f z) (E n) [] 0 0 := by
  refine Law.of_walk (plainFor_of_name (by decide +kernel)) (by decide +kernel) (by decide +kernel) (by decide) (fun _ _ h => by rw [h.1]; rfl) (fun _ U U' hal hh h => ⟨h.1, h.2.1.mv hal hh, h.2.2.1.there hal hh, h.2.2.2⟩) (fun r U U' V V' h1 hal h2 h => XT.PureE.mv r U U' V V' h1 hal h2 h) ?_
  intro p e s m args below meth c s₁ X0 hexec hbytes hml hret hlk hnm hown hh0 W hP
  obtain ⟨rfl, hx, s1, hz⟩ := hP
  have v31 := hx.2.2.2.1.2.2.2
  have c1 : Steps p.tables e below (s₁.setTop (entryFrame m #[.ref x] 1)) (s₁.setTop (mkF m 1 #[.val (.ref x)] [.ref x])) := Steps.trans (entry rfl) (by
    show Steps p.tables e below (s₁.setTop (mkF m 0 #[.val (.ref x)] [])) _
    refine XS.aloadN X0.here hexec rfl (hb hbytes d0) rfl rfl ?_
    exact Steps.refl _)
  obtain ⟨T2, X2, q2, st2⟩ := X0.hget hexec hown (wk W (.fieldLink "java/lang/String" 9 "java/lang/String" "value" "[B")) (hx.mv X0.warmed.alike hh0).2.1 (g := (mkF m 1 #[.val (.ref x)] [.ref x])) rfl (rest := []) rfl (hb hbytes d1)
  have hh2 := q2.trans hh0
  have hx2 := hx.mv X2.warmed.alike hh2
  have c3 : Steps p.tables e below (s₁.setTop (entryFrame m #[.ref x] 1)) (T2.setTop (mkF m 6 #[.val (.ref x)] [.ref x, .int (Int32.ofNat V.slots.size)])) := (c1.trans (st2 _ (Steps.refl _))).trans (by
    refine X2.alen hexec hx2.2.2.2.1 rfl rfl (hb hbytes d4) ?_
    refine XS.aloadN X2.here hexec rfl (hb hbytes d5) rfl rfl ?_
    exact Steps.refl _)
  obtain ⟨v4, T4, X4, E4, g4⟩ := X2.callV hexec (Cdr.law l x cd z) hown (wks W (virtW "java/lang/String" 335 "java/lang/String" Cdr.yN Cdr.yN)) rfl (by decide) (wk W Cdr.tab) (W := 1) (Nat.le_of_ble_eq_true rfl) (Nat.le_of_ble_eq_true rfl) (Nat.le_refl _) (Nat.le_refl _) (hx2.1.fc X2.warmed.alike) hx2.1.is (g := (mkF m 6 #[.val (.ref x)] [.ref x, .int (Int32.ofNat V.slots.size)])) rfl (by rw [hml]; rfl) c3 (argsL := []) (rest := [.int (Int32.ofNat V.slots.size)]) rfl rfl (by show 2 * 0 + (1 + 0) ≤ _; decide) (hb hbytes d6) (⟨rfl, hx2.2.2.1, hx.2.2.2.2.1.cd, s1.there X2.warmed.alike hh2, hz⟩)
  obtain ⟨rfl, q4⟩ := E4
  have c5 : Steps p.tables e below (s₁.setTop (entryFrame m #[.ref x] 1)) (T4.setTop (mkF m 10 #[.val (.ref x)] [.int (Int32.ofNat V.slots.size >>> (cd &&& 31))])) := Steps.trans g4 (by
    refine ishr X4.here hexec rfl (hb hbytes d9) rfl ?_
    exact Steps.refl _)
  rw [hx.2.2.2.2.1.len v31] at c5
  exact ⟨T4, some (.int (Int32.ofNat n)), _, _, _, X4, rfl, rfl, rfl, (fun h => by cases h), ⟨rfl, q4.trans hh2⟩, fun fs hl => c5.trans (X4.ireturnOut hexec hret rfl (Or.inl rfl) (hb hbytes d10) hl)⟩
theorem pays {l : Launch} {R : Room} {p : Program} {e : Env} {below : List Frame} {s : State} {sargs : Array Value} {len W : Nat} (x t : Addr) (V : Cell) (cd : Int32) (n : Nat) (f : Nat → Int32) (z : Int32) (htab : tab.before sargs s = true) (hfr : 2 ≤ R.frames) (hlo : W + 25 ≤ R.locals) :
    Back l R p e below s sargs yN len W (fun A₁ a₁ => A₁.cells + 0 ≤ R.cells ∧ A₁.slots + 0 ≤ R.slots ∧ P x t V cd n f z a₁ A₁.U) (fun A₁ _ v₁ B₁ => E n v₁ A₁.U B₁.U ∧ B₁.locs = A₁.locs ++ [] ∧ B₁.cells = A₁.cells + 0 ∧ B₁.slots = A₁.slots + 0) :=
  (law l x t V cd n f z).pays htab hfr (by omega)
end Len
namespace IsL
def yN : MethodName := ⟨"java/lang/String", "isLatin1", "()Z"⟩
abbrev yB : ByteArray := jdk_42_method_154_code
theorem d0 : decode yB 0 = .ok (.getstatic 38, 3) := by decide +kernel
theorem d3 : decode yB 3 = .ok (.ifCond (.eq) 14, 3) := by decide +kernel
theorem d6 : decode yB 6 = .ok (.aload_n 0, 1) := by decide +kernel
theorem d7 : decode yB 7 = .ok (.getfield 15, 3) := by decide +kernel
theorem d10 : decode yB 10 = .ok (.ifCond (.ne) 7, 3) := by decide +kernel
theorem d13 : decode yB 13 = .ok (.iconst 1, 1) := by decide +kernel
theorem d14 : decode yB 14 = .ok (.goto 4, 3) := by decide +kernel
theorem d17 : decode yB 17 = .ok (.iconst 0, 1) := by decide +kernel
theorem d18 : decode yB 18 = .ok (.ireturn, 1) := by decide +kernel
def site : List Cond := [.fieldLink "java/lang/String" 38 "java/lang/String" "COMPACT_STRINGS" "Z", .fieldLink "java/lang/String" 15 "java/lang/String" "coder" "B"]
def tab : Cond := tabOf yN yB 1 (some .boolean) site
def P (x : Addr) (cd z : Int32) (args : Array Value) (s : State) : Prop := args = #[.ref x] ∧ Has x "java/lang/String" "coder" "B" (.int cd) s ∧ (cd = 0 ∨ cd = 1) ∧ StaticIs s "java/lang/String" "COMPACT_STRINGS" "Z" (.int z) ∧ ¬ z = 0
def E (cd : Int32) (r : Option Value) (s u : State) : Prop := XT.PureE (some (.int (1 - cd))) r s u
theorem law (l : Launch) (x : Addr) (cd z : Int32) : Law l yN 1 0 0 0 yB 1 (some .boolean) site (P x cd z) (E cd) [] 0 0 := by
  refine Law.of_walk (plainFor_of_name (by decide +kernel)) (by decide +kernel) (by decide +kernel) (by decide) (fun _ _ h => by rw [h.1]; rfl) (fun _ U U' hal hh h => ⟨h.1, h.2.1.mv hal hh, h.2.2.1, h.2.2.2.1.there hal hh, h.2.2.2.2⟩) (fun r U U' V V' h1 hal h2 h => XT.PureE.mv r U U' V V' h1 hal h2 h) ?_
  intro p e s m args below meth c s₁ X0 hexec hbytes hml hret hlk hnm hown hh0 W hP
  obtain ⟨rfl, hx, hc, s1, hz⟩ := hP
  have c1 : Steps p.tables e below (s₁.setTop (entryFrame m #[.ref x] 1)) (s₁.setTop (mkF m 0 #[.val (.ref x)] [])) := entry rfl
  obtain ⟨T2, X2, q2, st2⟩ := X0.sget hexec hown (wk W (.fieldLink "java/lang/String" 38 "java/lang/String" "COMPACT_STRINGS" "Z")) s1 (fun _ _ h => by rw [hh0]; exact h) (g := (mkF m 0 #[.val (.ref x)] [])) rfl (hb hbytes d0)
  have hh2 := q2.trans hh0
  have c3 : Steps p.tables e below (s₁.setTop (entryFrame m #[.ref x] 1)) (T2.setTop (mkF m 7 #[.val (.ref x)] [.ref x])) := (c1.trans (st2 _ (Steps.refl _))).trans (by
    refine XS.ifNo X2.here hexec rfl (hb hbytes d3) rfl (i0_eq_f hz) ?_
    refine XS.aloadN X2.here hexec rfl (hb hbytes d6) rfl rfl ?_
    exact Steps.refl _)
  obtain ⟨T4, X4, q4, st4⟩ := X2.hget hexec hown (wk W (.fieldLink "java/lang/String" 15 "java/lang/String" "coder" "B")) (hx.mv X2.warmed.alike hh2) (g := (mkF m 7 #[.val (.ref x)] [.ref x])) rfl (rest := []) rfl (hb hbytes d7)
  have c5 : Steps p.tables e below (s₁.setTop (entryFrame m #[.ref x] 1)) (T4.setTop (mkF m 10 #[.val (.ref x)] [.int cd])) := c3.trans (st4 _ (Steps.refl _))
  have c6 : Steps p.tables e below (s₁.setTop (entryFrame m #[.ref x] 1)) (T4.setTop (mkF m 18 #[.val (.ref x)] [.int (1 - cd)])) := by
    rcases hc with rfl | rfl
    · exact c5.trans (by
        refine XS.ifNo X4.here hexec rfl (hb hbytes d10) rfl (i0_ne_f rfl) ?_
        refine iconstV X4.here hexec rfl 1 (hb hbytes d13) (by decide) ?_
        refine XS.goto X4.here hexec rfl (pc0 := 14) rfl (hb hbytes d14) (by decide) rfl ?_
        exact Steps.refl _)
    · exact c5.trans (by
        refine XS.ifYes X4.here hexec rfl (pc0 := 10) rfl (hb hbytes d10) rfl (i0_ne_t (by decide)) (by decide) rfl ?_
        refine iconstV X4.here hexec rfl 0 (hb hbytes d17) (by decide) ?_
        exact Steps.refl _)
  exact ⟨T4, some (.int (1 - cd)), _, _, _, X4, rfl, rfl, rfl, (fun h => by cases h), ⟨rfl, q4.trans hh2⟩, fun fs hl => c6.trans (X4.ireturnOut hexec hret (by rcases hc with rfl | rfl <;> rfl) (Or.inr (Or.inl rfl)) (hb hbytes d18) hl)⟩
end IsL
namespace LChA
def yN : MethodName := ⟨"java/lang/StringLatin1", "charAt", "([BI)C"⟩
abbrev yB : ByteArray := jdk_43_method_2_code
theorem d0 : decode yB 0 = .ok (.iload_n 1, 1) := by decide +kernel
theorem d1 : decode yB 1 = .ok (.aload_n 0, 1) := by decide +kernel
theorem d2 : decode yB 2 = .ok (.arraylength, 1) := by decide +kernel
theorem d3 : decode yB 3 = .ok (.invokestatic 9, 3) := by decide +kernel
theorem d6 : decode yB 6 = .ok (.aload_n 0, 1) := by decide +kernel
theorem d7 : decode yB 7 = .ok (.iload_n 1, 1) := by decide +kernel
theorem d8 : decode yB 8 = .ok (.baload, 1) := by decide +kernel
theorem d9 : decode yB 9 = .ok (.sipush 255, 3) := by decide +kernel
theorem d12 : decode yB 12 = .ok (.iand, 1) := by decide +kernel
theorem d13 : decode yB 13 = .ok (.i2c, 1) := by decide +kernel
theorem d14 : decode yB 14 = .ok (.ireturn, 1) := by decide +kernel
def site : List Cond := [JO.Str_checkIndex.tab] ++ staticW "java/lang/StringLatin1" 9 JO.Str_checkIndex.yN
def tab : Cond := tabOf yN yB 2 (some .char) site
def P (t : Addr) (V : Cell) (i : Nat) (u : Int32) (fm : Value) (args : Array Value) (s : State) : Prop := args = #[.ref t, .int (Int32.ofNat i)] ∧ XT.Arr .byte t V s ∧ V.slots[i]? = some (.int u) ∧ (StaticIs s "jdk/internal/util/Preconditions" "SIOOBE_FORMATTER" "Ljava/util/function/BiFunction;" fm ∧ fm.isRef = true)
def E (u : Int32) (r : Option Value) (s w : State) : Prop := XT.PureE (some (.int (chr8 u))) r s w
theorem law (l : Launch) (t : Addr) (V : Cell) (i : Nat) (u : Int32) (fm : Value) : Law l yN 2 2 2 27 yB 2 (some .char) site (P t V i u fm) (E u) [] 0 0 := by
  refine Law.of_walk (plainFor_of_name (by decide +kernel)) (by decide +kernel) (by decide +kernel) (by decide) (fun _ _ h => by rw [h.1]; rfl) (fun _ U U' hal hh h => ⟨h.1, h.2.1.mv hal hh, h.2.2.1, h.2.2.2.1.there hal hh, h.2.2.2.2⟩) (fun r U U' V V' h1 hal h2 h => XT.PureE.mv r U U' V V' h1 hal h2 h) ?_
  intro p e s m args below meth c s₁ X0 hexec hbytes hml hret hlk hnm hown hh0 W hP
  obtain ⟨rfl, hV, hu, s1, rf⟩ := hP
  have v31 := hV.2.2.2
  have hi : i < V.slots.size := (Array.getElem?_eq_some_iff.mp hu).1
  have c1 : Steps p.tables e below (s₁.setTop (entryFrame m #[.ref t, .int (Int32.ofNat i)] 2)) (s₁.setTop (mkF m 0 #[.val (.ref t), .val (.int (Int32.ofNat i))] [])) := entry rfl
  have c2 : Steps p.tables e below (s₁.setTop (entryFrame m #[.ref t, .int (Int32.ofNat i)] 2)) (s₁.setTop (mkF m 3 #[.val (.ref t), .val (.int (Int32.ofNat i))] [.int (Int32.ofNat V.slots.size), .int (Int32.ofNat i)])) := c1.trans (by
    refine XS.iloadN X0.here hexec rfl (hb hbytes d0) rfl ?_
    refine XS.aloadN X0.here hexec rfl (hb hbytes d1) rfl rfl ?_
    refine X0.alen hexec (hV.mv X0.warmed.alike hh0) rfl rfl (hb hbytes d2) ?_
    exact Steps.refl _)
  obtain ⟨v3, T3, X3, E3, g3⟩ := X0.callS hexec (JO.Str_checkIndex.law l (Int32.ofNat i) (Int32.ofNat V.slots.size) fm) hown (wks W (staticW "java/lang/StringLatin1" 9 JO.Str_checkIndex.yN)) (wk W JO.Str_checkIndex.tab) (W := 0) (Nat.le_of_ble_eq_true rfl) (Nat.le_of_ble_eq_true rfl) (Nat.le_refl _) (Nat.le_refl _) (g := (mkF m 3 #[.val (.ref t), .val (.int (Int32.ofNat i))] [.int (Int32.ofNat V.slots.size), .int (Int32.ofNat i)])) rfl (by rw [hml]; rfl) c2 (argsL := [.int (Int32.ofNat i), .int (Int32.ofNat V.slots.size)]) (rest := []) rfl rfl (by show 2 * 0 + 0 ≤ _; decide) (hb hbytes d3) (⟨rfl, rf, s1.there X0.warmed.alike hh0, Int32.ofNat_not_neg (by omega), lt32 v31 hi⟩)
  obtain ⟨rfl, q3⟩ := E3
  have hh3 := q3.trans hh0
  have c4 : Steps p.tables e below (s₁.setTop (entryFrame m #[.ref t, .int (Int32.ofNat i)] 2)) (T3.setTop (mkF m 14 #[.val (.ref t), .val (.int (Int32.ofNat i))] [.int (chr8 u)])) := Steps.trans g3 (by
    refine XS.aloadN X3.here hexec rfl (hb hbytes d6) rfl rfl ?_
    refine XS.iloadN X3.here hexec rfl (hb hbytes d7) rfl ?_
    refine X3.aget hexec (hV.mv X3.warmed.alike hh3) rfl hu rfl rfl (hb hbytes d8) ?_
    refine sipushV X3.here hexec rfl 255 (hb hbytes d9) (by decide) ?_
    refine XS.iand X3.here hexec rfl (hb hbytes d12) rfl ?_
    refine i2c X3.here hexec rfl (hb hbytes d13) rfl ?_
    exact Steps.refl _)
  exact ⟨T3, some (.int (chr8 u)), _, _, _, X3, rfl, rfl, rfl, (fun h => by cases h), ⟨rfl, hh3⟩, fun fs hl => c4.trans (X3.ireturnOut hexec hret (narrow_c _) (Or.inr (Or.inr (Or.inr (Or.inl rfl)))) (hb hbytes d14) hl)⟩
end LChA
end StrChars
namespace StrChars.Road
open Jvm Sem ClassFile Op Lib Jvm.Stand Jvm.Free Jvm.Free.XT
open Jvm.Lib.Cold (StaticIs)
theorem consq {a : Array Value} {s : State} {c : Jvm.Cond} {L : List Jvm.Cond} (h0 : c.before a s = true) (h : ∀ w ∈ L, w.before a s = true) : ∀ w ∈ c :: L, w.before a s = true := fun w hw => (List.mem_cons.mp hw).elim (fun e => e ▸ h0) (h w)
/-- the words of String.length(), either coding -/
abbrev wordsLen : List Jvm.Cond := [.code Len.yN Len.yB 1 (some .int), .initialized ST, .fieldLink ST 9 ST "value" "[B", .fieldLink ST 38 ST "COMPACT_STRINGS" "Z", .fieldLink ST 15 ST "coder" "B", .code Cdr.yN Cdr.yB 1 (some .byte), .methodLink ST 335 Cdr.yN, .declares Cdr.yN, .selects ST Cdr.yN Cdr.yN, .instanceMethod Cdr.yN]
theorem tabLen_of {a : Array Value} {s : State} (h : ∀ w ∈ wordsLen, w.before a s = true) : Len.tab.before a s = true := by
  have hc : Cdr.tab.before a s = true := unparts (wk h (.code Cdr.yN Cdr.yB 1 (some .byte))) (wks h (.initialized Cdr.yN.cls :: Cdr.site))
  have q := consq hc h
  exact unparts (wk q (.code Len.yN Len.yB 1 (some .int))) (wks q (.initialized Len.yN.cls :: Len.site))
theorem movedLen {Z s : State} {a0 args : Array Value} (hZ : Z.Warmed39 s.vm) (hw : ∀ d ∈ wordsLen, d.before a0 Z = true) : ∀ d ∈ wordsLen, d.before args s = true := fun d hd => by
  have q := hw d hd
  have t : ∀ d ∈ wordsLen, d = .arrayClass .byte ∨ (d.onTables && d.keepsFace) = true := by decide +kernel
  rcases t d hd with rfl | t
  · exact RoadKit.mvA hZ q
  · exact RoadKit.mv hZ q t
/-- the bytes of the chars cs, low before high -/
def wideBytes : List Int32 → List Value
  | [] => []
  | c :: cs => .int (lo8 c) :: .int (hi8 c) :: wideBytes cs
theorem wide_lo (d : Value) : ∀ (cs : List Int32) (j : Nat), j < cs.length → (wideBytes cs).getD (2 * j) d = .int (lo8 (cs.getD j 0))
  | [], j, h => absurd h (Nat.not_lt_zero j)
  | c :: cs, 0, _ => rfl
  | c :: cs, j + 1, h => by
    have q := wide_lo d cs j (by simpa using h)
    rw [show 2 * (j + 1) = 2 * j + 1 + 1 from by omega]
    simpa [wideBytes] using q
theorem wide_hi (d : Value) : ∀ (cs : List Int32) (j : Nat), j < cs.length → (wideBytes cs).getD (2 * j + 1) d = .int (hi8 (cs.getD j 0))
  | [], j, h => absurd h (Nat.not_lt_zero j)
  | c :: cs, 0, _ => rfl
  | c :: cs, j + 1, h => by
    have q := wide_hi d cs j (by simpa using h)
    rw [show 2 * (j + 1) + 1 = 2 * j + 1 + 1 + 1 from by omega]
    simpa [wideBytes] using q
theorem low_at (d : Value) (cs : List Int32) (j : Nat) (h : j < cs.length) : (cs.map fun c => Value.int (lo8 c)).getD j d = .int (lo8 (cs.getD j 0)) := by
  simp [List.getD_eq_getElem?_getD, h]
/-- an array of N2 bytes vs codes the chars cs by the coder cd -/
def CodA (cs : List Int32) (cd N2 : Int32) (vs : List Value) : Prop := (cd = 0 ∧ N2 = Int32.ofNat cs.length ∧ vs = (cs.map fun c => Value.int (lo8 c)) ∧ ∀ c ∈ cs, ¬ 255 < c) ∨ (cd = 1 ∧ N2 = Int32.ofNat (2 * cs.length) ∧ vs = wideBytes cs ∧ ∃ c ∈ cs, 255 < c)
theorem CodA.cod {cs : List Int32} {cd N2 : Int32} {vs : List Value} {V : Cell} (h : CodA cs cd N2 vs) (hn : 2 * cs.length < 2 ^ 31) (hs : V.slots.size = N2.toNatClampNeg) (hv : RoadKit.Has V vs (.int 0)) : Cod cd cs.length (fun j => cs.getD j 0) V := by
  rcases h with ⟨rfl, rfl, rfl, h⟩ | ⟨rfl, rfl, rfl, c, hc, hw⟩
  · rw [n32 (by omega)] at hs
    exact Or.inl ⟨rfl, hs, fun j hj => ⟨by rw [hv j (by omega), low_at _ _ _ hj], by
      have e : cs.getD j 0 = cs[j] := by simp [List.getD_eq_getElem?_getD, hj]
      show ¬ 255 < cs.getD j 0
      rw [e]; exact h _ (List.getElem_mem _)⟩⟩
  · rw [n32 (by omega)] at hs
    obtain ⟨j, hj, rfl⟩ := List.getElem_of_mem hc
    exact Or.inr ⟨rfl, hs, fun j hj => ⟨by rw [hv _ (by omega), wide_lo _ _ _ hj], by rw [hv _ (by omega), wide_hi _ _ _ hj]⟩, j, hj, by
      have e : cs.getD j 0 = cs[j] := by simp [List.getD_eq_getElem?_getD, hj]
      show 255 < cs.getD j 0
      rw [e]; exact hw⟩
/-- an object of exactly java/lang/String, its two fields found: as the laws ask it -/
theorem strObj {Z U : State} {a0 : Array Value} {kI : Nat} (wi : (Jvm.Cond.instantiable ST kI).before a0 Z = true) (al : Z.vm.Alike U.vm) {x : Addr} {v0 c0 : Value} (E : RoadKit.Exa Z U.heap x ST) (V : RoadKit.Fld Z U.heap x ST "value" "[B" v0) (C : RoadKit.Fld Z U.heap x ST "coder" "B" c0) :
    ∃ (D : Cell) (fV fC : Field), Blank ST x D U ∧ Found ST "value" "[B" fV U ∧ Found ST "coder" "B" fC U ∧ D.slots[fV.slot]? = some v0 ∧ D.slots[fC.slot]? = some c0 ∧ RoadKit.slotOf Z ST "value" "[B" = fV.slot ∧ RoadKit.slotOf Z ST "coder" "B" = fC.slot := by
  obtain ⟨D, cfV, kV, iV, fV, hD, gV, stV, knV, obV, asV, slV⟩ := V
  obtain ⟨D', cfC, kC, iC, fC, hD', gC, stC, -, -, asC, slC⟩ := C
  cases hD.symm.trans hD'
  obtain ⟨D2, kD, e1, e2, e3, e4, e5⟩ := E
  cases hD.symm.trans e1
  obtain ⟨c2, k2, i1, i2, i3, -⟩ := Cond.instantiable_spec wi
  cases e2.symm.trans i1
  cases e3.symm.trans i2
  obtain ⟨kU, u1, u2⟩ := al.2.2 _ _ e3
  exact ⟨D, fV, fC, ⟨hD, ⟨knV, fun q hq => by rw [hq] at obV; cases obV⟩, by rw [al.findClass]; exact e2, kU, u1, by rw [u2]; exact i3, by rw [u2]; exact e5 i3⟩, ⟨SBG.found_only al ⟨cfV, kV, iV, gV⟩, stV⟩, ⟨SBG.found_only al ⟨cfC, kC, iC, gC⟩, stC⟩, slV, slC, by simp [RoadKit.slotOf, gV], by simp [RoadKit.slotOf, gC]⟩
theorem sta_is {Z U : State} (al : Z.vm.Alike U.vm) {C n d : String} {v : Value} (S : RoadKit.Sta Z U.heap C n d v) : StaticIs U C n d v := by
  obtain ⟨cfS, iS, kS, fS, st, cS, t1, t2, t3, t4, t5, t6, t7⟩ := S
  exact StaticIs.there (s := { Z with heap := U.heap }) ⟨cfS, iS, kS, fS, st, cS, t1, t2, t3, t4, t5, (fun q => by rw [q] at t6; cases t6), t7⟩ al rfl
/-- **length() OF SUCH A STRING** -/
theorem lenW {p : Program} {l : Launch} {e : Env} {R : Room} {s : State} {args : Array Value} {below : List Frame} {len W : Nat} {Z : State} {a0 : Array Value} {h : Heap} (hZ : Z.Warmed39 s.vm) (hw : ∀ d ∈ wordsLen, d.before a0 Z = true) {kI : Nat} (wi : (Jvm.Cond.instantiable ST kI).before a0 Z = true)
    {x t : Addr} {kb : ClassId} {cs : List Int32} {cd N2 z : Int32} {vs : List Value} (E : RoadKit.Exa Z h x ST) (V : RoadKit.Fld Z h x ST "value" "[B" (.ref t)) (C : RoadKit.Fld Z h x ST "coder" "B" (.int cd)) (K : RoadKit.Arv Z h t kb .byte N2 vs (.int 0)) (hc : CodA cs cd N2 vs) (hb : ∀ c ∈ cs, ¬ c < 0 ∧ ¬ (65535 : Int32) < c)
    (S : RoadKit.Sta Z h ST "COMPACT_STRINGS" "Z" (.int z)) (hz : ¬ z = 0) (l2 : cs.length ≤ 4000) (hfr : 2 ≤ R.frames) (hlo : W + 25 ≤ R.locals) :
    Back l R p e below s args (⟨"java/lang/String", "length", "()I"⟩ : MethodName) len W (fun P a => a = #[.ref x] ∧ P.U.heap = h ∧ P.cells + 0 ≤ R.cells ∧ P.slots + 0 ≤ R.slots)
      (fun P _ v B => ∃ L, (v = some (.int (Int32.ofNat cs.length)) ∧ L = [] ∧ B.U.heap = h) ∧ B.locs = P.locs ++ L ∧ B.cells = P.cells + 0 ∧ B.slots = P.slots + 0) := by
  obtain ⟨A, K1, K2, K3, K4, K5, K6⟩ := K
  have hcod := hc.cod (by omega) K3 K5
  intro m meth c P g ig mk a X hg hsize hdg hW hn hp'
  obtain ⟨rfl, rfl, r1, r2⟩ := hp'
  have al : Z.vm.Alike P.U.vm := hZ.alike.trans X.warmed.alike
  obtain ⟨D, fV, fC, hB, F1, F2, g1, g2, -, -⟩ := strObj wi al E V C
  have hx : Txt x t A cd cs.length (fun j => cs.getD j 0) P.U := ⟨⟨_, hB.2.2.1, D, hB.1, rfl, by cases q : D.vm <;> first | rfl | exact absurd q (hB.2.1.2 _)⟩, Has.of hB F1 g1, Has.of hB F2 g2, ⟨K1.1, State.isArrayOf_alike al K1.2.1, K1.2.2, by rcases hcod with ⟨-, q, -⟩ | ⟨-, q, -⟩ <;> omega⟩, hcod, fun j hj => by
    have e : cs.getD j 0 = cs[j] := by simp [List.getD_eq_getElem?_getD, hj]
    show ¬ cs.getD j 0 < 0 ∧ ¬ 65535 < cs.getD j 0
    rw [e]; exact hb _ (List.getElem_mem _)⟩
  obtain ⟨v, B, X', ⟨⟨hv, hh⟩, hl, hk, hs⟩, st⟩ := Len.pays x t A cd cs.length (fun j => cs.getD j 0) z (tabLen_of (movedLen hZ hw)) hfr hlo m meth c P g ig mk _ X hg hsize hdg hW hn ⟨r1, r2, rfl, hx, sta_is al S, hz⟩
  exact ⟨v, B, X', ⟨[], ⟨hv, rfl, hh⟩, hl, hk, hs⟩, st⟩
end StrChars.Road
namespace StrChars.Road
open Jvm Sem ClassFile Op Lib Jvm.Stand Jvm.Free Jvm.Free.XT
open Jvm.Lib.Cold (StaticIs)
/-- the road's facts of a String, as the laws ask it -/
theorem txt_of {Z U : State} {a0 : Array Value} {kI : Nat} (wi : (Jvm.Cond.instantiable ST kI).before a0 Z = true) (al : Z.vm.Alike U.vm) {x t : Addr} {kb : ClassId} {cs : List Int32} {cd N2 : Int32} {vs : List Value} (E : RoadKit.Exa Z U.heap x ST) (V : RoadKit.Fld Z U.heap x ST "value" "[B" (.ref t)) (C : RoadKit.Fld Z U.heap x ST "coder" "B" (.int cd)) (K : RoadKit.Arv Z U.heap t kb .byte N2 vs (.int 0)) (hc : CodA cs cd N2 vs) (hb : ∀ c ∈ cs, ¬ c < 0 ∧ ¬ (65535 : Int32) < c) (l2 : cs.length ≤ 4000) :
    ∃ A, Txt x t A cd cs.length (fun j => cs.getD j 0) U := by
  obtain ⟨A, K1, K2, K3, K4, K5, K6⟩ := K
  have hcod := hc.cod (by omega) K3 K5
  obtain ⟨D, fV, fC, hB, F1, F2, g1, g2, -, -⟩ := strObj wi al E V C
  exact ⟨A, ⟨_, hB.2.2.1, D, hB.1, rfl, by cases q : D.vm <;> first | rfl | exact absurd q (hB.2.1.2 _)⟩, Has.of hB F1 g1, Has.of hB F2 g2, ⟨K1.1, State.isArrayOf_alike al K1.2.1, K1.2.2, by rcases hcod with ⟨-, q, -⟩ | ⟨-, q, -⟩ <;> omega⟩, hcod, fun j hj => by
    have e : cs.getD j 0 = cs[j] := by simp [List.getD_eq_getElem?_getD, hj]
    show ¬ cs.getD j 0 < 0 ∧ ¬ 65535 < cs.getD j 0
    rw [e]; exact hb _ (List.getElem_mem _)⟩
end StrChars.Road
namespace StrChars
open Jvm Sem ClassFile Op Lib Jvm.Stand Jvm.Free.XT Jvm.Free.ALB Jvm.Free.JM Jvm.Free
open Jvm.Lib.Cold (StaticIs)
namespace ChN
def yN : MethodName := ⟨"java/lang/String", "charAt", "(I)C"⟩
abbrev yB : ByteArray := jdk_42_method_56_code
theorem d0 : decode yB 0 = .ok (.aload_n 0, 1) := by decide +kernel
theorem d1 : decode yB 1 = .ok (.invokevirtual 492, 3) := by decide +kernel
theorem d4 : decode yB 4 = .ok (.ifCond (.eq) 12, 3) := by decide +kernel
theorem d7 : decode yB 7 = .ok (.aload_n 0, 1) := by decide +kernel
theorem d8 : decode yB 8 = .ok (.getfield 9, 3) := by decide +kernel
theorem d11 : decode yB 11 = .ok (.iload_n 1, 1) := by decide +kernel
theorem d12 : decode yB 12 = .ok (.invokestatic 495, 3) := by decide +kernel
theorem d15 : decode yB 15 = .ok (.ireturn, 1) := by decide +kernel
def site : List Cond := [.fieldLink "java/lang/String" 9 "java/lang/String" "value" "[B", IsL.tab, LChA.tab] ++ virtW "java/lang/String" 492 "java/lang/String" IsL.yN IsL.yN ++ staticW "java/lang/String" 495 LChA.yN
def tab : Cond := tabOf yN yB 2 (some .char) site
def P (x t : Addr) (V : Cell) (n : Nat) (f : Nat → Int32) (z : Int32) (fm : Value) (i : Nat) (args : Array Value) (s : State) : Prop := args = #[.ref x, .int (Int32.ofNat i)] ∧ Txt x t V 0 n f s ∧ i < n ∧ StaticIs s "java/lang/String" "COMPACT_STRINGS" "Z" (.int z) ∧ ¬ z = 0 ∧ StaticIs s "jdk/internal/util/Preconditions" "SIOOBE_FORMATTER" "Ljava/util/function/BiFunction;" fm ∧ fm.isRef = true
def E (f : Nat → Int32) (i : Nat) (r : Option Value) (s u : State) : Prop := XT.PureE (some (.int (f i))) r s u
/-- charAt(i) of a Latin-1 String of n chars, i < n: f i -/
theorem law (l : Launch) (x t : Addr) (V : Cell) (n : Nat) (f : Nat → Int32) (z : Int32) (fm : Value) (i : Nat) : Law l yN 2 1 3 40 yB 2 (some .char) site (P x t V n f z fm i) (E f i) [] 0 0 := by
  refine Law.of_walk (plainFor_of_name (by decide +kernel)) (by decide +kernel) (by decide +kernel) (by decide) (fun _ _ h => by rw [h.1]; rfl) (fun _ U U' hal hh h => ⟨h.1, h.2.1.mv hal hh, h.2.2.1, h.2.2.2.1.there hal hh, h.2.2.2.2.1, h.2.2.2.2.2.1.there hal hh, h.2.2.2.2.2.2⟩) (fun r U U' V V' h1 hal h2 h => XT.PureE.mv r U U' V V' h1 hal h2 h) ?_
  intro p e s m args below meth c s₁ X0 hexec hbytes hml hret hlk hnm hown hh0 W hP
  obtain ⟨rfl, hx, hi, s1, hz, s3, rf⟩ := hP
  have v31 := hx.2.2.2.1.2.2.2
  have hr := hx.2.2.2.2.2 i hi
  have hx0 := hx.mv X0.warmed.alike hh0
  have c1 : Steps p.tables e below (s₁.setTop (entryFrame m #[.ref x, .int (Int32.ofNat i)] 2)) (s₁.setTop (mkF m 1 #[.val (.ref x), .val (.int (Int32.ofNat i))] [.ref x])) := Steps.trans (entry rfl) (by
    show Steps p.tables e below (s₁.setTop (mkF m 0 #[.val (.ref x), .val (.int (Int32.ofNat i))] [])) _
    refine XS.aloadN X0.here hexec rfl (hb hbytes d0) rfl rfl ?_
    exact Steps.refl _)
  obtain ⟨v2, T2, X2, E2, g2⟩ := X0.callV hexec (IsL.law l x 0 z) hown (wks W (virtW "java/lang/String" 492 "java/lang/String" IsL.yN IsL.yN)) rfl (by decide) (wk W IsL.tab) (W := 0) (Nat.le_of_ble_eq_true rfl) (Nat.le_of_ble_eq_true rfl) (Nat.le_refl _) (Nat.le_refl _) (hx0.1.fc X0.warmed.alike) hx0.1.is (g := (mkF m 1 #[.val (.ref x), .val (.int (Int32.ofNat i))] [.ref x])) rfl (by rw [hml]; rfl) c1 (argsL := []) (rest := []) rfl rfl (by show 2 * 0 + 0 ≤ _; decide) (hb hbytes d1) (⟨rfl, hx0.2.2.1, hx.2.2.2.2.1.cd, s1.there X0.warmed.alike hh0, hz⟩)
  obtain ⟨rfl, q2⟩ := E2
  have hh2 := q2.trans hh0
  have hx2 := hx.mv X2.warmed.alike hh2
  obtain ⟨-, k1, k2⟩ | ⟨k0, -⟩ := hx.2.2.2.2.1
  · have c3 : Steps p.tables e below (s₁.setTop (entryFrame m #[.ref x, .int (Int32.ofNat i)] 2)) (T2.setTop (mkF m 8 #[.val (.ref x), .val (.int (Int32.ofNat i))] [.ref x])) := Steps.trans g2 (by
      refine XS.ifNo X2.here hexec rfl (hb hbytes d4) rfl (i0_eq_f (by decide)) ?_
      refine XS.aloadN X2.here hexec rfl (hb hbytes d7) rfl rfl ?_
      exact Steps.refl _)
    obtain ⟨T4, X4, q4, st4⟩ := X2.hget hexec hown (wk W (.fieldLink "java/lang/String" 9 "java/lang/String" "value" "[B")) hx2.2.1 (g := (mkF m 8 #[.val (.ref x), .val (.int (Int32.ofNat i))] [.ref x])) rfl (rest := []) rfl (hb hbytes d8)
    have hh4 := q4.trans hh2
    have c5 : Steps p.tables e below (s₁.setTop (entryFrame m #[.ref x, .int (Int32.ofNat i)] 2)) (T4.setTop (mkF m 12 #[.val (.ref x), .val (.int (Int32.ofNat i))] [.int (Int32.ofNat i), .ref t])) := (c3.trans (st4 _ (Steps.refl _))).trans (by
      refine XS.iloadN X4.here hexec rfl (hb hbytes d11) rfl ?_
      exact Steps.refl _)
    obtain ⟨v6, T6, X6, E6, g6⟩ := X4.callS hexec (LChA.law l t V i (lo8 (f i)) fm) hown (wks W (staticW "java/lang/String" 495 LChA.yN)) (wk W LChA.tab) (W := 0) (Nat.le_of_ble_eq_true rfl) (Nat.le_of_ble_eq_true rfl) (Nat.le_refl _) (Nat.le_refl _) (g := (mkF m 12 #[.val (.ref x), .val (.int (Int32.ofNat i))] [.int (Int32.ofNat i), .ref t])) rfl (by rw [hml]; rfl) c5 (argsL := [.ref t, .int (Int32.ofNat i)]) (rest := []) rfl rfl (by show 2 * 0 + 0 ≤ _; decide) (hb hbytes d12) (⟨rfl, hx.2.2.2.1.mv X4.warmed.alike hh4, (k2 i hi).1, s3.there X4.warmed.alike hh4, rf⟩)
    obtain ⟨rfl, q6⟩ := E6
    rw [chr8_lo8 hr.1 (k2 i hi).2] at g6
    exact ⟨T6, some (.int (f i)), _, _, _, X6, rfl, rfl, rfl, (fun h => by cases h), ⟨rfl, q6.trans hh4⟩, fun fs hl => Steps.trans g6 (X6.ireturnOut hexec hret (narrow_ch hr.1 hr.2) (Or.inr (Or.inr (Or.inr (Or.inl rfl)))) (hb hbytes d15) hl)⟩
  · exact absurd k0 (by decide)
theorem pays {l : Launch} {R : Room} {p : Program} {e : Env} {below : List Frame} {s : State} {sargs : Array Value} {len W : Nat} (x t : Addr) (V : Cell) (n : Nat) (f : Nat → Int32) (z : Int32) (fm : Value) (i : Nat) (htab : tab.before sargs s = true) (hfr : 4 ≤ R.frames) (hlo : W + 53 ≤ R.locals) :
    Back l R p e below s sargs yN len W (fun A₁ a₁ => A₁.cells + 0 ≤ R.cells ∧ A₁.slots + 0 ≤ R.slots ∧ P x t V n f z fm i a₁ A₁.U) (fun A₁ _ v₁ B₁ => E f i v₁ A₁.U B₁.U ∧ B₁.locs = A₁.locs ++ [] ∧ B₁.cells = A₁.cells + 0 ∧ B₁.slots = A₁.slots + 0) :=
  (law l x t V n f z fm i).pays htab hfr (by omega)
end ChN
end StrChars
namespace StrChars.Road
open Jvm Sem ClassFile Op Lib Jvm.Stand Jvm.Free Jvm.Free.XT
open Jvm.Lib.Cold (StaticIs)
/-- the words of String.charAt(int), the Latin-1 road alone -/
abbrev wordsChN : List Jvm.Cond := [.code ChN.yN ChN.yB 2 (some .char), .initialized ST, .fieldLink ST 9 ST "value" "[B", .fieldLink ST 38 ST "COMPACT_STRINGS" "Z", .fieldLink ST 15 ST "coder" "B", .code IsL.yN IsL.yB 1 (some .boolean), .methodLink ST 492 IsL.yN, .declares IsL.yN, .selects ST IsL.yN IsL.yN, .instanceMethod IsL.yN,
  .methodLink ST 495 LChA.yN, .static LChA.yN, .code LChA.yN LChA.yB 2 (some .char), .initialized "java/lang/StringLatin1", .methodLink "java/lang/StringLatin1" 9 JO.Str_checkIndex.yN, .static JO.Str_checkIndex.yN, .code JO.Str_checkIndex.yN JO.Str_checkIndex.yB 2 none,
  .fieldLink ST 1053 "jdk/internal/util/Preconditions" "SIOOBE_FORMATTER" "Ljava/util/function/BiFunction;", .methodLink ST 1059 JC.PreCheck.yN, .static JC.PreCheck.yN, .code JC.PreCheck.yN JC.PreCheck.yB 3 (some .int), .initialized "jdk/internal/util/Preconditions"]
theorem tabChN_of {a : Array Value} {s : State} (h : ∀ w ∈ wordsChN, w.before a s = true) : ChN.tab.before a s = true := by
  have hp : JC.PreCheck.tab.before a s = true := unparts (wk h (.code JC.PreCheck.yN JC.PreCheck.yB 3 (some .int))) (wks h (.initialized JC.PreCheck.yN.cls :: JC.PreCheck.site))
  have qk := consq hp h
  have hk : JO.Str_checkIndex.tab.before a s = true := unparts (wk qk (.code JO.Str_checkIndex.yN JO.Str_checkIndex.yB 2 none)) (wks qk (.initialized JO.Str_checkIndex.yN.cls :: JO.Str_checkIndex.site))
  have ql := consq hk h
  have hl : LChA.tab.before a s = true := unparts (wk ql (.code LChA.yN LChA.yB 2 (some .char))) (wks ql (.initialized LChA.yN.cls :: LChA.site))
  have hi : IsL.tab.before a s = true := unparts (wk h (.code IsL.yN IsL.yB 1 (some .boolean))) (wks h (.initialized IsL.yN.cls :: IsL.site))
  have q := consq hi (consq hl h)
  exact unparts (wk q (.code ChN.yN ChN.yB 2 (some .char))) (wks q (.initialized ChN.yN.cls :: ChN.site))
theorem movedChN {Z s : State} {a0 args : Array Value} (hZ : Z.Warmed39 s.vm) (hw : ∀ d ∈ wordsChN, d.before a0 Z = true) : ∀ d ∈ wordsChN, d.before args s = true := fun d hd => by
  have t : ∀ d ∈ wordsChN, (d.onTables && d.keepsFace) = true := by decide +kernel
  exact RoadKit.mv hZ (hw d hd) (t d hd)
/-- **charAt(i) OF A LATIN-1 STRING**, i < n: the char -/
theorem chN {p : Program} {l : Launch} {e : Env} {R : Room} {s : State} {args : Array Value} {below : List Frame} {len W : Nat} {Z : State} {a0 : Array Value} {h : Heap} (hZ : Z.Warmed39 s.vm) (hw : ∀ d ∈ wordsChN, d.before a0 Z = true) {kI : Nat} (wi : (Jvm.Cond.instantiable ST kI).before a0 Z = true)
    {x t : Addr} {kb : ClassId} {cs : List Int32} {N2 z : Int32} {vs : List Value} {fm : Value} {i : Nat} {j : Int32} (E : RoadKit.Exa Z h x ST) (V : RoadKit.Fld Z h x ST "value" "[B" (.ref t)) (C : RoadKit.Fld Z h x ST "coder" "B" (.int 0)) (K : RoadKit.Arv Z h t kb .byte N2 vs (.int 0)) (hc : CodA cs 0 N2 vs) (hb : ∀ c ∈ cs, ¬ c < 0 ∧ ¬ (65535 : Int32) < c)
    (S : RoadKit.Sta Z h ST "COMPACT_STRINGS" "Z" (.int z)) (hz : ¬ z = 0) (F : RoadKit.Sta Z h "jdk/internal/util/Preconditions" "SIOOBE_FORMATTER" "Ljava/util/function/BiFunction;" fm) (rf : fm.isRef = true) (l2 : cs.length ≤ 4000) (hi : i < cs.length) (hj : j = Int32.ofNat i) (hfr : 4 ≤ R.frames) (hlo : W + 53 ≤ R.locals) :
    Back l R p e below s args (⟨"java/lang/String", "charAt", "(I)C"⟩ : MethodName) len W (fun P a => a = #[.ref x, .int j] ∧ P.U.heap = h ∧ P.cells + 0 ≤ R.cells ∧ P.slots + 0 ≤ R.slots)
      (fun P _ v B => ∃ L, (v = some (.int (cs.getD i 0)) ∧ L = [] ∧ B.U.heap = h) ∧ B.locs = P.locs ++ L ∧ B.cells = P.cells + 0 ∧ B.slots = P.slots + 0) := by
  subst hj
  intro m meth c P g ig mk a X hg hsize hdg hW hn hp'
  obtain ⟨rfl, rfl, r1, r2⟩ := hp'
  have al : Z.vm.Alike P.U.vm := hZ.alike.trans X.warmed.alike
  obtain ⟨A, hx⟩ := txt_of wi al E V C K hc hb l2
  obtain ⟨v, B, X', ⟨⟨hv, hh⟩, hl, hk, hs⟩, st⟩ := ChN.pays x t A cs.length (fun j => cs.getD j 0) z fm i (tabChN_of (movedChN hZ hw)) hfr hlo m meth c P g ig mk _ X hg hsize hdg hW hn ⟨r1, r2, rfl, hx, hi, sta_is al S, hz, sta_is al F, rf⟩
  exact ⟨v, B, X', ⟨[], ⟨hv, rfl, hh⟩, hl, hk, hs⟩, st⟩
/-- what backV says of its String, as the contracts of this text ask it: cs's low bytes, coder 0 -/
theorem codOf {cs : List Int32} {n : Nat} (hn : cs.length = n) (hb : ∀ c ∈ cs, ¬ 255 < c) : CodA cs 0 (Int32.ofNat n) ((cs.map lo8).map Value.int) := Or.inl ⟨rfl, by rw [hn], by simp [List.map_map, Function.comp_def], hb⟩
end StrChars.Road
end Jvm.Pilot.@@N@@
namespace Jvm.Pilot.@@N@@
open Jvm Jvm.ClassFile Sem Op Lib Jvm.Free Jvm.Stand Jvm.LawKit Jvm.RoadKit Bundle Jvm.Pilot.@@N@@.Jvm.D
def own_Txt (Z : State) (h : Heap) (x : Addr) (cs : List Int32) : Prop := ∃ (t : Addr) (kb : ClassId), Exa Z h x "java/lang/String" ∧ Fld Z h x "java/lang/String" "value" "[B" (.ref t) ∧ Fld Z h x "java/lang/String" "coder" "B" (.int 0) ∧ Arv Z h t kb .byte (Int32.ofNat cs.length) ((cs.map StrChars.lo8).map Value.int) (.int 0) ∧ (∀ c ∈ cs, ¬ c < 0 ∧ ¬ (255 : Int32) < c) ∧ cs.length ≤ 4000
theorem own_Txt.ext {Z : State} {h h' : Heap} {x : Addr} {cs : List Int32} (F : own_Txt Z h x cs) (E : Ext h h') : own_Txt Z h' x cs := by
  obtain ⟨t, kb, f1, f2, f3, f4, f5, f6⟩ := F
  exact ⟨t, kb, f1.ext E, f2.ext E, f3.ext E, f4.ext E, f5, f6⟩
theorem own_Txt.exa {Z : State} {h : Heap} {x : Addr} {cs : List Int32} (F : own_Txt Z h x cs) : Exa Z h x "java/lang/String" := by obtain ⟨t, kb, f1, -⟩ := F; exact f1
theorem own_Txt.lt {Z : State} {h : Heap} {x : Addr} {cs : List Int32} (F : own_Txt Z h x cs) : x < h.size := F.exa.lt
theorem own_up (cs : List Int32) (h : ∀ c ∈ cs, ¬ c < 0 ∧ ¬ (255 : Int32) < c) : ∀ c ∈ cs, ¬ c < 0 ∧ ¬ (65535 : Int32) < c := fun c hc => ⟨(h c hc).1, fun q => (h c hc).2 (by rw [Int32.lt_iff_toInt_lt] at q ⊢; exact Int.lt_trans (by decide) q)⟩
theorem own_w_backV {a0 : Array Value} {Z : State} (hw : ∀ d ∈ tables_1, d.before a0 Z = true) : ∀ d ∈ StrChars.Road.words, d.before a0 Z = true := fun d hd => hw d ((by decide +kernel : ∀ d ∈ StrChars.Road.words, d ∈ tables_1) d hd)
theorem own_w_lenW {a0 : Array Value} {Z : State} (hw : ∀ d ∈ tables_1, d.before a0 Z = true) : ∀ d ∈ StrChars.Road.wordsLen, d.before a0 Z = true := fun d hd => hw d ((by decide +kernel : ∀ d ∈ StrChars.Road.wordsLen, d ∈ tables_1) d hd)
theorem own_w_chN {a0 : Array Value} {Z : State} (hw : ∀ d ∈ tables_1, d.before a0 Z = true) : ∀ d ∈ StrChars.Road.wordsChN, d.before a0 Z = true := fun d hd => hw d ((by decide +kernel : ∀ d ∈ StrChars.Road.wordsChN, d ∈ tables_1) d hd)
theorem own_lenW {p : Program} {l : Launch} {e : Env} {R : Room} {s : State} {m : MethodId} {args : Array Value} {below : List Frame} {meth : Method} {c : Code} {T : State} {locs : List Loc} {cells slots : Nat} {pc : Nat} {Ls : Array Slot} {Z : State} {a0 : Array Value} {h : Heap} (X : Stand p l e R s m args below meth c T locs cells slots) (hx : p.tables.exec = Jvm.exec) (hZ : Z.Warmed39 s.vm) (eT : T.heap = h) (hw : ∀ d ∈ tables_1, d.before a0 Z = true) (wi : (Jvm.Cond.instantiable "java/lang/String" 4).before a0 Z = true) {own : String} {index : Nat} (hown : s.vm.findClass own = some m.cls) {x : Addr} {cs : List Int32} (F : own_Txt Z h x cs) {z : Int32} (SC : Sta Z h "java/lang/String" "COMPACT_STRINGS" "Z" (.int z)) (hz : ¬ z = 0)
    (w1 : (Jvm.Cond.methodLink own index (⟨"java/lang/String", "length", "()I"⟩ : MethodName)).before a0 Z = true) (w2 : (Jvm.Cond.declares (⟨"java/lang/String", "length", "()I"⟩ : MethodName)).before a0 Z = true) (w3 : (Jvm.Cond.selects "java/lang/String" (⟨"java/lang/String", "length", "()I"⟩ : MethodName) (⟨"java/lang/String", "length", "()I"⟩ : MethodName)).before a0 Z = true) (w4 : (Jvm.Cond.instanceMethod (⟨"java/lang/String", "length", "()I"⟩ : MethodName)).before a0 Z = true)
    (rest : List Value) (W : Nat) (hfr : 2 ≤ R.frames) (hlo : W + 25 ≤ R.locals) (hcR : cells ≤ R.cells) (hsR : slots ≤ R.slots) (hsz : Ls.size = c.maxLocals) (hlen : ∀ sig, parseMethodDescriptor "()I" = some sig → ([] : List Value).length = sig.parameters.length) (hW : (rest.map fun v => v.category).sum ≤ W) (hd : decode c.code pc = .ok (.invokevirtual index, 3)) :
    ∃ T' : State, Stand p l e R s m args below meth c T' locs cells slots ∧ T'.heap = h ∧ ∀ t, Steps p.tables e below (T'.setTop (mkF m (pc + 3) Ls ((.int (Int32.ofNat cs.length)) :: rest))) t → Steps p.tables e below (T.setTop (mkF m pc Ls (.ref x :: rest))) t := by
  obtain ⟨t, kb, f1, f2, f3, f4, f5, f6⟩ := F
  obtain ⟨T', v, X', e', ⟨hv, -, -⟩, st⟩ := Own.callVB (y := (⟨"java/lang/String", "length", "()I"⟩ : MethodName)) (Q := fun v h' L => v = some (.int (Int32.ofNat cs.length)) ∧ L = [] ∧ h' = h) X hx hZ eT x [] rest W (StrChars.Road.lenW (W := W) hZ (own_w_lenW hw) (kI := 4) wi f1 f2 f3 f4 (StrChars.Road.codOf rfl fun c hc => (f5 c hc).2) (own_up cs f5) SC hz f6 hfr hlo) (fun v h' L q => ⟨q.2.1, q.2.2⟩) hown f1 w1 w2 w3 w4 (by decide) hcR hsR hsz hlen rfl hW hd
  subst hv
  exact ⟨T', X', e', st⟩
theorem own_chN {p : Program} {l : Launch} {e : Env} {R : Room} {s : State} {m : MethodId} {args : Array Value} {below : List Frame} {meth : Method} {c : Code} {T : State} {locs : List Loc} {cells slots : Nat} {pc : Nat} {Ls : Array Slot} {Z : State} {a0 : Array Value} {h : Heap} (X : Stand p l e R s m args below meth c T locs cells slots) (hx : p.tables.exec = Jvm.exec) (hZ : Z.Warmed39 s.vm) (eT : T.heap = h) (hw : ∀ d ∈ tables_1, d.before a0 Z = true) (wi : (Jvm.Cond.instantiable "java/lang/String" 4).before a0 Z = true) {own : String} {index : Nat} (hown : s.vm.findClass own = some m.cls) {x : Addr} {cs : List Int32} (F : own_Txt Z h x cs) {z : Int32} (SC : Sta Z h "java/lang/String" "COMPACT_STRINGS" "Z" (.int z)) (hz : ¬ z = 0) {fm : Value} (SF : Sta Z h "jdk/internal/util/Preconditions" "SIOOBE_FORMATTER" "Ljava/util/function/BiFunction;" fm) (rf : fm.isRef = true) {i : Nat} {j : Int32} (hi : i < cs.length) (hj : j = Int32.ofNat i)
    (w1 : (Jvm.Cond.methodLink own index (⟨"java/lang/String", "charAt", "(I)C"⟩ : MethodName)).before a0 Z = true) (w2 : (Jvm.Cond.declares (⟨"java/lang/String", "charAt", "(I)C"⟩ : MethodName)).before a0 Z = true) (w3 : (Jvm.Cond.selects "java/lang/String" (⟨"java/lang/String", "charAt", "(I)C"⟩ : MethodName) (⟨"java/lang/String", "charAt", "(I)C"⟩ : MethodName)).before a0 Z = true) (w4 : (Jvm.Cond.instanceMethod (⟨"java/lang/String", "charAt", "(I)C"⟩ : MethodName)).before a0 Z = true)
    (rest : List Value) (W : Nat) (hfr : 4 ≤ R.frames) (hlo : W + 53 ≤ R.locals) (hcR : cells ≤ R.cells) (hsR : slots ≤ R.slots) (hsz : Ls.size = c.maxLocals) (hlen : ∀ sig, parseMethodDescriptor "(I)C" = some sig → ([.int j] : List Value).length = sig.parameters.length) (hW : (rest.map fun v => v.category).sum ≤ W) (hd : decode c.code pc = .ok (.invokevirtual index, 3)) :
    ∃ T' : State, Stand p l e R s m args below meth c T' locs cells slots ∧ T'.heap = h ∧ ∀ t, Steps p.tables e below (T'.setTop (mkF m (pc + 3) Ls ((.int (cs.getD i 0)) :: rest))) t → Steps p.tables e below (T.setTop (mkF m pc Ls (.int j :: .ref x :: rest))) t := by
  obtain ⟨t, kb, f1, f2, f3, f4, f5, f6⟩ := F
  obtain ⟨T', v, X', e', ⟨hv, -, -⟩, st⟩ := Own.callVB (y := (⟨"java/lang/String", "charAt", "(I)C"⟩ : MethodName)) (Q := fun v h' L => v = some (.int (cs.getD i 0)) ∧ L = [] ∧ h' = h) X hx hZ eT x [.int j] rest W (StrChars.Road.chN (W := W) hZ (own_w_chN hw) (kI := 4) wi f1 f2 f3 f4 (StrChars.Road.codOf rfl fun c hc => (f5 c hc).2) (own_up cs f5) SC hz SF rf f6 hi hj hfr hlo) (fun v h' L q => ⟨q.2.1, q.2.2⟩) hown f1 w1 w2 w3 w4 (by decide) hcR hsR hsz hlen rfl hW hd
  subst hv
  exact ⟨T', X', e', st⟩
theorem own_newS {p : Program} {l : Launch} {e : Env} {R : Room} {s : State} {m : MethodId} {args : Array Value} {below : List Frame} {meth : Method} {c : Code} {T : State} {locs : List Loc} {cells slots : Nat} {pc : Nat} {Ls : Array Slot} {Z : State} {a0 : Array Value} {h : Heap} (X : Stand p l e R s m args below meth c T locs cells slots) (hx : p.tables.exec = Jvm.exec) (hZ : Z.Warmed39 s.vm) (eT : T.heap = h) (hw : ∀ d ∈ tables_1, d.before a0 Z = true) (wi : (Jvm.Cond.instantiable "java/lang/String" 4).before a0 Z = true) {own : String} {index : Nat} (hown : s.vm.findClass own = some m.cls) {x b : Addr} {cs : List Int32} {v0 c0 : Value} {n0 n : Nat} (hn : cs.length = n) (hx0 : n0 ≤ x) (hh0 : n0 ≤ h.size) (E : Exa Z h x "java/lang/String") (V : Fld Z h x "java/lang/String" "value" "[B" v0) (Cd : Fld Z h x "java/lang/String" "coder" "B" c0) (K : Own.CA Z h b .char cs) {z : Int32} (SC : Sta Z h "java/lang/String" "COMPACT_STRINGS" "Z" (.int z)) (hz : ¬ z = 0)
    (l0 : 0 < n) (l2 : n ≤ 4000) (hp : ∀ c ∈ cs, ¬ c < 0 ∧ ¬ (255 : Int32) < c) {bytes : ByteArray} {maxL : Nat} (w1 : (Jvm.Cond.methodLink own index (⟨"java/lang/String", "<init>", "([C)V"⟩ : MethodName)).before a0 Z = true) (w2 : (Jvm.Cond.instanceMethod (⟨"java/lang/String", "<init>", "([C)V"⟩ : MethodName)).before a0 Z = true) (w4 : (Jvm.Cond.code (⟨"java/lang/String", "<init>", "([C)V"⟩ : MethodName) bytes maxL none).before a0 Z = true)
    (rest : List Value) (W : Nat) (hfr : 4 ≤ R.frames) (hlo : W + 65 ≤ R.locals) (hcR : cells + 1 ≤ R.cells) (hsR : slots + n ≤ R.slots) (hsz : Ls.size = c.maxLocals) (hlen : ∀ sig, parseMethodDescriptor "([C)V" = some sig → ([.ref b] : List Value).length = sig.parameters.length) (hW : (rest.map fun v => v.category).sum ≤ W) (hd : decode c.code pc = .ok (.invokespecial index, 3)) :
    ∃ (T' : State) (h' : Heap) (L M : List Loc), Stand p l e R s m args below meth c T' M (cells + 1) (slots + n) ∧ T'.heap = h' ∧ (∀ n0, Fr n0 locs → Fr n0 L → Fr n0 M) ∧ Fr n0 L ∧ Keep h h' [x] ∧ own_Txt Z h' x cs ∧ ∀ t, Steps p.tables e below (T'.setTop (mkF m (pc + 3) Ls rest)) t → Steps p.tables e below (T.setTop (mkF m pc Ls (.ref b :: .ref x :: rest))) t := by
  obtain ⟨kC, K, hK⟩ := K
  obtain ⟨T', h', v, L, M, X', e', hM, ⟨rfl, q1, q2, q3, q4, t, kb, -, -, -, q5, q6⟩, st⟩ := Own.callIB (y := (⟨"java/lang/String", "<init>", "([C)V"⟩ : MethodName)) X hx hZ eT rfl x [.ref b] rest W (StrChars.Road.backV (W := W) hZ (own_w_backV hw) (kI := 4) wi (cs := cs) (bs := cs.map (fun c => c.toInt8.toInt32)) (n := n) (N := Int32.ofNat cs.length) hx0 hh0 E V Cd K SC hz hn (by rw [hn]) l0 l2 hp rfl hfr hlo) hown w1 w2 w4 (by decide) hcR hsR hsz hlen rfl hW hd
  exact ⟨T', h', L, M, X', e', hM, q1, q2, ⟨t, kb, q3, q5, q4, q6, hp, by omega⟩, st⟩
abbrev vi (x : Int32) : Slot := .val (.int x)
abbrev vr (x : Addr) : Slot := .val (.ref x)
abbrev vl (x : Int64) : Slot := .val (.long x)
theorem W_ {a0 : Array Value} {Z : State} (hw : ∀ d ∈ tables_1, d.before a0 Z = true) (i : Nat) {d : Jvm.Cond} (h : tables_1[i]? = some d) : d.before a0 Z = true := hw d (List.mem_of_getElem? h)
theorem szOf {c : Code} {n : Nat} {L : Array Slot} (h : c.maxLocals = n) (q : L.size = n) : L.size = c.maxLocals := q.trans h.symm
abbrev J0 : ByteArray := jdk_29_method_65_code
abbrev J1 : ByteArray := jdk_29_method_69_code
abbrev J2 : ByteArray := jdk_42_method_149_code
abbrev J3 : ByteArray := jdk_42_method_154_code
abbrev J4 : ByteArray := jdk_42_method_3_code
abbrev J5 : ByteArray := jdk_42_method_79_code
abbrev J6 : ByteArray := jdk_42_method_80_code
abbrev J7 : ByteArray := jdk_43_method_22_code
abbrev J8 : ByteArray := jdk_43_method_23_code
abbrev J9 : ByteArray := jdk_43_method_4_code
abbrev J10 : ByteArray := method_10_code
abbrev J11 : ByteArray := method_11_code
abbrev J12 : ByteArray := method_12_code
abbrev J13 : ByteArray := method_13_code
abbrev J14 : ByteArray := method_14_code
abbrev J15 : ByteArray := method_3_code
abbrev J16 : ByteArray := method_4_code
abbrev J17 : ByteArray := method_5_code
abbrev J18 : ByteArray := method_6_code
abbrev J19 : ByteArray := method_7_code
abbrev J20 : ByteArray := method_8_code
abbrev J21 : ByteArray := method_9_code
abbrev J22 : ByteArray := prog_22_method_10_code
abbrev J23 : ByteArray := prog_22_method_11_code
abbrev J24 : ByteArray := prog_22_method_12_code
abbrev J25 : ByteArray := prog_22_method_2_code
abbrev J26 : ByteArray := prog_22_method_3_code
abbrev J27 : ByteArray := prog_22_method_4_code
abbrev J28 : ByteArray := prog_22_method_5_code
abbrev J29 : ByteArray := prog_22_method_6_code
abbrev J30 : ByteArray := prog_22_method_7_code
abbrev J31 : ByteArray := prog_22_method_8_code
abbrev J32 : ByteArray := prog_22_method_9_code
def own_EL : List (String × Nat) := [("java/lang/String", 7), ("com/example/pliktflow/pliktflow/deposit/MediaType", 37), ("com/example/pliktflow/pliktflow/deposit/MediaType", 49)]
theorem own_hEL {a0 : Array Value} {Z : State} (hw : ∀ d ∈ tables_1, d.before a0 Z = true) : EW Z a0 own_EL := (EW.cons (text := "") (W_ hw 29 rfl) (by decide) (EW.cons (text := "!#$&^_.+-") (W_ hw 108 rfl) (by decide) (EW.cons (text := "!#$%&'*+.^_`|~-") (W_ hw 160 rfl) (by decide) EW.nil)))
theorem own_wS {a0 : Array Value} {Z : State} (hw : ∀ d ∈ tables_1, d.before a0 Z = true) : ∀ a ∈ Bundle.stringAtoms, a.before a0 Z = true := fun d hd => hw d ((by decide +kernel : ∀ d ∈ Bundle.stringAtoms, d ∈ tables_1) d hd)

theorem d5_0 : decode J2 0 = .ok (.aload_n 0, 1) := by decide +kernel
theorem d5_1 : decode J2 1 = .ok (.invokespecial 1, 3) := by decide +kernel
theorem d5_4 : decode J2 4 = .ok (.iload_n 3, 1) := by decide +kernel
theorem d5_5 : decode J2 5 = .ok (.ifCond .ne 22, 3) := by decide +kernel
theorem d5_8 : decode J2 8 = .ok (.aload_n 0, 1) := by decide +kernel
theorem d5_9 : decode J2 9 = .ok (.ldc 7, 2) := by decide +kernel
theorem d5_11 : decode J2 11 = .ok (.getfield 9, 3) := by decide +kernel
theorem d5_14 : decode J2 14 = .ok (.putfield 9, 3) := by decide +kernel
theorem d5_17 : decode J2 17 = .ok (.aload_n 0, 1) := by decide +kernel
theorem d5_18 : decode J2 18 = .ok (.ldc 7, 2) := by decide +kernel
theorem d5_20 : decode J2 20 = .ok (.getfield 15, 3) := by decide +kernel
theorem d5_23 : decode J2 23 = .ok (.putfield 15, 3) := by decide +kernel
theorem d5_26 : decode J2 26 = .ok (.return_, 1) := by decide +kernel
theorem pn_0 : plainName "java/lang/String" = true := by first | (simp [plainName, overriddenIn]; done) | decide +kernel
theorem ef_5n4 (m : MethodId) (o0 : Addr) (o1 : Addr) (p2 : Int32) (p3 : Int32) : entryFrame m #[(.ref o0), (.ref o1), (.int p2), (.int p3), .null] 6 = mkF m 0 #[.val (.ref o0), .val (.ref o1), .val (.int p2), .val (.int p3), .val .null, .unset] [] := by first | (simp [entryFrame, mkF, argsToLocals, Value.category]; done) | rfl
set_option maxRecDepth 65536 in
set_option maxHeartbeats 40000000 in
theorem cE4 (l : Launch) (Z : State) (a0 : Array Value) (hw : ∀ d ∈ tables_1, d.before a0 Z = true) (o0 : Addr) (o1 : Addr) (n0 : Nat) (old : Value) (h0 : Heap) (Z0 : n0 ≤ h0.size) (E0 : Exa Z h0 o0 "java/lang/String") (F0 : Fld Z h0 o0 "java/lang/String" "value" "[B" .null) (F1 : Fld Z h0 o0 "java/lang/String" "coder" "B" old) (g0 : n0 ≤ o0) : Own.ConH l Z own_EL (⟨"java/lang/String", "<init>", "([CIILjava/lang/Void;)V"⟩ : MethodName) jdk_42_method_149_code 6 none ({ frames := 1, cells := 4, slots := 8, locals := 12 } : Room) #[(.ref o0), (.ref o1), (.int 0), (.int 0), .null] h0 (fun v h L => v = none ∧ Fr n0 L ∧ Keep h0 h [o0] ∧ own_Txt Z h o0 []) := by
  intro ws
  refine MetFree.of_bodySF (plainFor_of_name pn_0) hisR ?_
  intro p e s m args below meth c s₁ Bd hml0 hP hK
  obtain ⟨rfl, hZ, hh, hH⟩ := hP
  have hx := Bd.exec
  have hby := Bd.bytes
  have D := fun {n : Nat} {i} (d : decode jdk_42_method_149_code n = .ok i) => hb hby d
  have hml : c.maxLocals = 6 := hml0
  have hown : s.vm.findClass "java/lang/String" = some m.cls := findClass_of_methodNamed Bd.named
  have hnm := (name_of_methodNamed Bd.named Bd.method).1
  have X0 : Stand p l e ({ frames := 1, cells := 4, slots := 8, locals := 12 } : Room) (s.setVm s.vm) m #[(.ref o0), (.ref o1), (.int 0), (.int 0), .null] below meth c s₁ [] 0 0 := Stand.of_body Bd
  have e0 : s₁.heap = h0 := by rw [← hh, Bd.state]; rfl
  have D0 : Own.Wd s Z own_EL "java/lang/String" m.cls s.vm h0 := by rw [← hh]; exact Own.Wd.start hZ hown (by rw [hh]; exact hH)
  have K0 : ∀ t, Steps p.tables e below (s₁.setTop (mkF m 0 #[vr o0, vr o1, vi 0, vi 0, .val .null, .unset] [])) t → Steps p.tables e below (s₁.setTop (entryFrame m #[(.ref o0), (.ref o1), (.int 0), (.int 0), .null] 6)) t := fun t k => castTop (ef_5n4 m o0 o1 (0 : Int32) (0 : Int32)) k
  generalize s₁.setTop (entryFrame m #[(.ref o0), (.ref o1), (.int 0), (.int 0), .null] 6) = B0 at K0 ⊢
  show Own.FinH p e below B0 s Z own_EL (({ frames := 1, cells := 4, slots := 8, locals := 12 } : Room)).cells (({ frames := 1, cells := 4, slots := 8, locals := 12 } : Room)).slots (fun v h L => v = none ∧ Fr n0 L ∧ Keep h0 h [o0] ∧ own_Txt Z h o0 [])
  have S0 := Own.safe_null (EL := own_EL) D0.hZ.alike E0 F0
  have K1 : Own.To p e below B0 s₁ (mkF m 1 #[vr o0, vr o1, vi 0, vi 0, .val .null, .unset] [(.ref o0)]) := fun t k => K0 t (by
    refine Own.aloadN X0 hx (D d5_0) rfl rfl ?_
    exact k)
  obtain ⟨T2, X2, e2, st2⟩ := Own.initO (Ls := #[vr o0, vr o1, vi 0, vi 0, .val .null, .unset]) (S := []) (a := o0) X0 hx D0.hZ e0 D0.hown (W_ hw 26 rfl) (W_ hw 27 rfl) (W_ hw 28 rfl) (by rw [hml]; rfl) (D d5_1) (by decide) 0 (Nat.le_of_eq rfl) (by decide)
  have K3 := fun t k => K1 t (st2 t k)
  have K4 : Own.To p e below B0 T2 (mkF m 5 #[vr o0, vr o1, vi 0, vi 0, .val .null, .unset] [(.int 0)]) := fun t k => K3 t (by
    refine Own.iloadN X2 hx (D d5_4) rfl ?_
    exact k)
  have K5 : Own.To p e below B0 T2 (mkF m 9 #[vr o0, vr o1, vi 0, vi 0, .val .null, .unset] [(.ref o0)]) := fun t k => K4 t (by
    refine Own.ifNo X2 hx (D d5_5) ((if0 _ _).trans (teq (by decide : (0 : Int32) = (0 : Int32))).2) ?_
    refine Own.aloadN X2 hx (D d5_8) rfl rfl ?_
    exact k)
  obtain ⟨vm6, T6, h6, a6, b6, k6, X6, e6, E6, D6, sf6, ex6, fv6, fc6, av6, ne6, st6⟩ := Own.ldcT (Ls := #[vr o0, vr o1, vi 0, vi 0, .val .null, .unset]) (S := [(.ref o0)]) X2 hx (own_hEL hw) D0 e2 "" (W_ hw 29 rfl) (own_wS hw) (by decide) [] (by decide) (by rfl) 0 (by decide) (by decide) (by decide) (by decide) (by decide) (D d5_9)
  have S7 := sf6 o0 E0.lt S0
  have X6 : Stand p l e ({ frames := 1, cells := 4, slots := 8, locals := 12 } : Room) (s.setVm vm6) m #[(.ref o0), (.ref o1), (.int 0), (.int 0), .null] below meth c T6 [] 2 4 := X6
  have m8 : h0.size ≤ h6.size := E6.1
  have ca6 : Own.CA Z h6 b6 .byte (([] : List Int32).map fun c => c.toInt8.toInt32) := ⟨k6, by simpa using av6, by simp⟩
  have K9 := fun t k => K5 t (st6 t k)
  obtain ⟨T10, X10, e10, st10⟩ := Own.getF (Ls := #[vr o0, vr o1, vi 0, vi 0, .val .null, .unset]) X6 hx D6.hZ e6 D6.hown (host := "") (Or.inl (W_ hw 35 rfl)) Via.refl fv6 (S := [(.ref o0)]) (D d5_11)
  have K11 := fun t k => K9 t (st10 t k)
  have f12 := (F0.ext E6)
  have f13 := (E0.ext E6)
  obtain ⟨T14, h14, L14, X14, e14, n14, W14, F14, st14⟩ := Own.putF (Ls := #[vr o0, vr o1, vi 0, vi 0, .val .null, .unset]) (S := []) (v := (.ref b6)) X10 hx D6.hZ e10 D6.hown (host := "") (Or.inl (W_ hw 35 rfl)) Via.refl f12 f13 (Or.inr ⟨(W_ hw 31 rfl), rfl, hnm⟩) (W_ hw 17 rfl) (ty := (.array .byte)) (by decide) rfl rfl (D d5_14)
  have N14 : Fr n0 L14 := n14 n0 (Fr.nil _) g0
  have m15 : h6.size ≤ h14.size := Nat.le_of_eq W14.size.symm
  have S16 := Safe.wr W14 S7 D6.H S7
  have D15 := D6.wr W14 S7
  have K17 := fun t k => K11 t (st14 t k)
  have K18 : Own.To p e below B0 T14 (mkF m 18 #[vr o0, vr o1, vi 0, vi 0, .val .null, .unset] [(.ref o0)]) := fun t k => K17 t (by
    refine Own.aloadN X14 hx (D d5_17) rfl rfl ?_
    exact k)
  obtain ⟨vm19, T19, h19, a19, b19, k19, X19, e19, E19, D19, sf19, ex19, fv19, fc19, av19, ne19, st19⟩ := Own.ldcT (Ls := #[vr o0, vr o1, vi 0, vi 0, .val .null, .unset]) (S := [(.ref o0)]) X14 hx (own_hEL hw) D15 e14 "" (W_ hw 29 rfl) (own_wS hw) (by decide) [] (by decide) (by rfl) 0 (by decide) (by decide) (by decide) (by decide) (by decide) (D d5_18)
  have S20 := sf19 o0 (f13.wr W14).lt S16
  have X19 : Stand p l e ({ frames := 1, cells := 4, slots := 8, locals := 12 } : Room) (s.setVm vm19) m #[(.ref o0), (.ref o1), (.int 0), (.int 0), .null] below meth c T19 L14 4 8 := X19
  have m21 : h14.size ≤ h19.size := E19.1
  have ca19 : Own.CA Z h19 b19 .byte (([] : List Int32).map fun c => c.toInt8.toInt32) := ⟨k19, by simpa using av19, by simp⟩
  have K22 := fun t k => K18 t (st19 t k)
  obtain ⟨T23, X23, e23, st23⟩ := Own.getF (Ls := #[vr o0, vr o1, vi 0, vi 0, .val .null, .unset]) X19 hx D19.hZ e19 D19.hown (host := "") (Or.inl (W_ hw 36 rfl)) Via.refl fc19 (S := [(.ref o0)]) (D d5_20)
  have K24 := fun t k => K22 t (st23 t k)
  have f25 := (((F1.ext E6).other W14 (Or.inr (slot_ne (Or.inr (W_ hw 32 rfl)) (Or.inr (W_ hw 31 rfl)) (by decide) (t := .byte) (t' := (.array .byte)) (by decide) (by decide)))).ext E19)
  have f26 := ((f13.wr W14).ext E19)
  obtain ⟨T27, h27, L27, X27, e27, n27, W27, F27, st27⟩ := Own.putF (Ls := #[vr o0, vr o1, vi 0, vi 0, .val .null, .unset]) (S := []) (v := (.int 0)) X23 hx D19.hZ e23 D19.hown (host := "") (Or.inl (W_ hw 36 rfl)) Via.refl f25 f26 (Or.inr ⟨(W_ hw 32 rfl), rfl, hnm⟩) (W_ hw 17 rfl) (ty := .byte) (by decide) rfl rfl (D d5_23)
  have N27 : Fr n0 L27 := n27 n0 N14 g0
  have m28 : h19.size ≤ h27.size := Nat.le_of_eq W27.size.symm
  have S29 := Safe.wr W27 S20 D19.H S20
  have D28 := D19.wr W27 S20
  have K30 := fun t k => K24 t (st27 t k)
  have f31 := (f26.wr W27)
  have f32 := ((F14.ext E19).other W27 (Or.inr (slot_ne (Or.inr (W_ hw 31 rfl)) (Or.inr (W_ hw 32 rfl)) (by decide) (t := (.array .byte)) (t' := .byte) (by decide) (by decide))))
  have f33 := (((ca6.other W14 (Ne.symm (ne6 o0 S7).2)).ext E19).other W27 (Ne.symm (ne6 o0 S7).2))
  have kp := (((((Keep.refl h0 [o0]).ext E6).wr W14 (Or.inl (List.mem_of_getElem? (i := 0) rfl))).ext E19).wr W27 (Or.inl (List.mem_of_getElem? (i := 0) rfl)))
  obtain ⟨kA, vA, -⟩ := f33
  exact Own.finHV X27 hx (own_hEL hw) e27 D28 (BodyLoose.notSynchronized Bd) Bd.returns (D d5_26) K30 (by decide) (by decide) (by rw [e27]; exact ⟨rfl, N27, kp, ⟨_, kA, f31, f32, F27, vA, (fun c hc => absurd hc List.not_mem_nil), by decide⟩⟩)

theorem d4_0 : decode J4 0 = .ok (.aload_n 0, 1) := by decide +kernel
theorem d4_1 : decode J4 1 = .ok (.aload_n 1, 1) := by decide +kernel
theorem d4_2 : decode J4 2 = .ok (.iconst 0, 1) := by decide +kernel
theorem d4_3 : decode J4 3 = .ok (.aload_n 1, 1) := by decide +kernel
theorem d4_4 : decode J4 4 = .ok (.arraylength, 1) := by decide +kernel
theorem d4_5 : decode J4 5 = .ok (.aconst_null, 1) := by decide +kernel
theorem d4_6 : decode J4 6 = .ok (.invokespecial 27, 3) := by decide +kernel
theorem d4_9 : decode J4 9 = .ok (.return_, 1) := by decide +kernel
theorem pd_0 : parseMethodDescriptor "([CIILjava/lang/Void;)V" = some ⟨[(.array .char), .int, .int, (.object "java/lang/Void")], none⟩ := by decide +kernel
theorem ef_4 (m : MethodId) (o0 : Addr) (o1 : Addr) : entryFrame m #[(.ref o0), (.ref o1)] 2 = mkF m 0 #[.val (.ref o0), .val (.ref o1)] [] := by first | (simp [entryFrame, mkF, argsToLocals, Value.category]; done) | rfl
set_option maxRecDepth 65536 in
set_option maxHeartbeats 40000000 in
theorem cE1 (l : Launch) (Z : State) (a0 : Array Value) (hw : ∀ d ∈ tables_1, d.before a0 Z = true) (o0 : Addr) (o1 : Addr) (n0 : Nat) (old : Value) (h0 : Heap) (Z0 : n0 ≤ h0.size) (E0 : Exa Z h0 o0 "java/lang/String") (F0 : Fld Z h0 o0 "java/lang/String" "value" "[B" .null) (F1 : Fld Z h0 o0 "java/lang/String" "coder" "B" old) (g0 : n0 ≤ o0) (VA : Own.CA Z h0 o1 .char []) : Own.ConH l Z own_EL (⟨"java/lang/String", "<init>", "([C)V"⟩ : MethodName) jdk_42_method_3_code 2 none ({ frames := 2, cells := 4, slots := 8, locals := 29 } : Room) #[(.ref o0), (.ref o1)] h0 (fun v h L => v = none ∧ Fr n0 L ∧ Keep h0 h [o0] ∧ own_Txt Z h o0 []) := by
  intro ws
  refine MetFree.of_bodySF (plainFor_of_name pn_0) hisR ?_
  intro p e s m args below meth c s₁ Bd hml0 hP hK
  obtain ⟨rfl, hZ, hh, hH⟩ := hP
  have hx := Bd.exec
  have hby := Bd.bytes
  have D := fun {n : Nat} {i} (d : decode jdk_42_method_3_code n = .ok i) => hb hby d
  have hml : c.maxLocals = 2 := hml0
  have hown : s.vm.findClass "java/lang/String" = some m.cls := findClass_of_methodNamed Bd.named
  have hnm := (name_of_methodNamed Bd.named Bd.method).1
  have X0 : Stand p l e ({ frames := 2, cells := 4, slots := 8, locals := 29 } : Room) (s.setVm s.vm) m #[(.ref o0), (.ref o1)] below meth c s₁ [] 0 0 := Stand.of_body Bd
  have e0 : s₁.heap = h0 := by rw [← hh, Bd.state]; rfl
  have D0 : Own.Wd s Z own_EL "java/lang/String" m.cls s.vm h0 := by rw [← hh]; exact Own.Wd.start hZ hown (by rw [hh]; exact hH)
  have K0 : ∀ t, Steps p.tables e below (s₁.setTop (mkF m 0 #[vr o0, vr o1] [])) t → Steps p.tables e below (s₁.setTop (entryFrame m #[(.ref o0), (.ref o1)] 2)) t := fun t k => castTop (ef_4 m o0 o1) k
  generalize s₁.setTop (entryFrame m #[(.ref o0), (.ref o1)] 2) = B0 at K0 ⊢
  show Own.FinH p e below B0 s Z own_EL (({ frames := 2, cells := 4, slots := 8, locals := 29 } : Room)).cells (({ frames := 2, cells := 4, slots := 8, locals := 29 } : Room)).slots (fun v h L => v = none ∧ Fr n0 L ∧ Keep h0 h [o0] ∧ own_Txt Z h o0 [])
  have K1 : Own.To p e below B0 s₁ (mkF m 4 #[vr o0, vr o1] [(.ref o1), (.int 0), (.ref o1), (.ref o0)]) := fun t k => K0 t (by
    refine Own.aloadN X0 hx (D d4_0) rfl rfl ?_
    refine Own.aloadN X0 hx (D d4_1) rfl rfl ?_
    refine Own.iconst X0 hx 0 (D d4_2) rfl ?_
    refine Own.aloadN X0 hx (D d4_3) rfl rfl ?_
    exact k)
  obtain ⟨cq2, Aq2, lq2⟩ := Own.CA.len VA
  have K3 : Own.To p e below B0 s₁ (mkF m 6 #[vr o0, vr o1] [.null, (.int 0), (.int 0), (.ref o1), (.ref o0)]) := fun t k => K1 t (by
    refine Own.arraylength X0 hx (0 : Int32) D0.hZ e0 Aq2 lq2 (D d4_4) ?_
    refine Own.aconstNull X0 hx (D d4_5) ?_
    exact k)
  obtain ⟨vm4, T4, h4, v4, J4, L4, X4, e4, D4, mm4, n4, hQ4, st4⟩ := Own.callIW (Ls := #[vr o0, vr o1]) X0 hx (own_hEL hw) D0 e0 rfl o0 [(.ref o1), (.int 0), (.int 0), .null] [] (cE4 l Z a0 hw o0 o1 n0 old h0 (Nat.le_trans Z0 (Nat.le_refl _)) E0 F0 F1 g0) (W_ hw 22 rfl) (W_ hw 23 rfl) (W_ hw 18 rfl) (W_ hw 25 rfl) (by decide) 0 (by decide) (by decide) (by decide) (by decide) (szOf hml rfl) (lenOf pd_0 rfl) rfl (Nat.le_of_eq rfl) (D d4_6)
  have X4 : Stand p l e ({ frames := 2, cells := 4, slots := 8, locals := 29 } : Room) (s.setVm vm4) m #[(.ref o0), (.ref o1)] below meth c T4 L4 4 8 := X4
  obtain ⟨rfl, NN4, K4, t4⟩ := hQ4
  have N4 : Fr n0 L4 := n4 n0 (Fr.nil _) NN4
  have m5 : h0.size ≤ h4.size := K4.1
  have K6 := fun t k => K3 t (st4 t k)
  have kp := ((Keep.refl h0 [o0]).trans K4 (allS (Or.inl (List.mem_of_getElem? (i := 0) rfl)) all0))
  exact Own.finHV X4 hx (own_hEL hw) e4 D4 (BodyLoose.notSynchronized Bd) Bd.returns (D d4_9) K6 (by decide) (by decide) (by rw [e4]; exact ⟨rfl, N4, kp, t4⟩)

theorem own_mask (x : Int32) (n : Nat) (y : Int32) (hy : y.toBitVec = BitVec.ofNat 32 (2 ^ n - 1)) (hn : n ≤ 30) : (x &&& y).toInt = x.toInt % 2 ^ n := by
  have hp : 2 ^ n ≤ 2 ^ 30 := Nat.pow_le_pow_right (by omega) hn
  have hp0 : 0 < 2 ^ n := Nat.two_pow_pos n
  have h2 : (x.toBitVec &&& y.toBitVec).toNat = x.toBitVec.toNat % 2 ^ n := by
    rw [BitVec.toNat_and, hy, BitVec.toNat_ofNat, Nat.mod_eq_of_lt (by omega)]
    exact Nat.and_two_pow_sub_one_eq_mod _ n
  have h1 : (x &&& y).toInt = ((x.toBitVec &&& y.toBitVec).toNat : Int) := by
    show (x &&& y).toBitVec.toInt = _
    rw [Int32.toBitVec_and]
    have : (x.toBitVec &&& y.toBitVec).toNat < 2 ^ n := by rw [h2]; exact Nat.mod_lt _ hp0
    rw [BitVec.toInt_eq_toNat_cond, if_pos (by omega)]
  have h3 : x.toInt = x.toBitVec.toInt := rfl
  have h4 : ((2 : Int) ^ n) = ((2 ^ n : Nat) : Int) := by simp
  have h5 : (2 ^ 32 : Nat) % 2 ^ n = 0 := Nat.mod_eq_zero_of_dvd (Nat.pow_dvd_pow 2 (by omega))
  rw [h1, h2, h3, BitVec.toInt_eq_toNat_cond, h4]
  split
  · exact Int.natCast_emod _ _
  · rw [Int.natCast_emod, Int.sub_emod]
    have : ((2 ^ 32 : Nat) : Int) % ((2 ^ n : Nat) : Int) = 0 := by rw [← Int.natCast_emod, h5]; rfl
    rw [this, Int.sub_zero, Int.emod_emod_of_dvd _ (Int.dvd_refl _)]
theorem own_nat {x : Int32} {n : Nat} (h0 : 0 ≤ x.toInt) (h1 : x.toInt < n) (hn : n < 2 ^ 31) : ∃ i : Nat, i < n ∧ x = Int32.ofNat i := by
  refine ⟨x.toInt.toNat, by omega, ?_⟩
  rw [← Int32.toInt_inj, Int32.toInt_ofNat_small (by omega)]; omega
theorem own_rem (k u : Int32) (hu : 0 < u.toInt) : 0 ≤ ((k &&& 2147483647) % u).toInt ∧ ((k &&& 2147483647) % u).toInt < u.toInt := by
  have h0 : 0 ≤ (k &&& 2147483647).toInt := by
    have : ¬ (k &&& 2147483647) < 0 := by
      rw [Jvm.Free.XT.and_neg32]; exact fun q => absurd q.2 (by decide)
    rw [Int32.lt_iff_toInt_lt] at this
    exact Int.not_lt.mp this
  rw [Int32.toInt_mod]
  exact ⟨Int.tmod_nonneg _ h0, Int.tmod_lt_of_pos _ hu⟩

theorem own_nar {x : Int32} (h0 : 0 ≤ x.toInt) (h1 : x.toInt < 65536) : nar .char x = x := by
  show x.toUInt32.toUInt16.toUInt32.toInt32 = x
  rw [← Int32.toBitVec_inj]
  show (x.toBitVec.setWidth 16).setWidth 32 = x.toBitVec
  have h3 : x.toInt = x.toBitVec.toInt := rfl
  rw [h3, BitVec.toInt_eq_toNat_cond] at h0 h1
  have h4 := x.toBitVec.isLt
  apply BitVec.eq_of_toNat_eq
  rw [BitVec.toNat_setWidth, BitVec.toNat_setWidth]
  split at h0
  · rw [if_pos (by assumption)] at h1; omega
  · omega
theorem own_lt0 {x : Int32} (h0 : 0 ≤ x.toInt) (h1 : x.toInt ≤ 255) : ¬ x < 0 ∧ ¬ (255 : Int32) < x := by
  rw [Int32.lt_iff_toInt_lt, Int32.lt_iff_toInt_lt, show (0 : Int32).toInt = 0 by decide, show (255 : Int32).toInt = 255 by decide]; omega

def own_ok (c : Int32) : Prop := ¬ c < 0 ∧ ¬ (255 : Int32) < c
theorem own_narb {c : Int32} (h : own_ok c) : nar .char c = c := by
  obtain ⟨h1, h2⟩ := h
  rw [Int32.lt_iff_toInt_lt, show (0 : Int32).toInt = 0 by decide] at h1
  rw [Int32.lt_iff_toInt_lt, show (255 : Int32).toInt = 255 by decide] at h2
  exact own_nar (by omega) (by omega)
theorem own_okn {c : Int32} : own_ok c ↔ c.toBitVec.toNat < 256 := by
  unfold own_ok
  rw [Int32.lt_iff_toInt_lt, Int32.lt_iff_toInt_lt, show (0 : Int32).toInt = 0 by decide, show (255 : Int32).toInt = 255 by decide]
  have h3 : c.toInt = c.toBitVec.toInt := rfl
  have h4 := c.toBitVec.isLt
  rw [h3, BitVec.toInt_eq_toNat_cond]
  split <;> omega
theorem own_b8i (x : Int32) : own_ok (x &&& 255) := by
  rw [own_okn, Int32.toBitVec_and, BitVec.toNat_and]
  exact Nat.lt_of_le_of_lt Nat.and_le_right (by decide)
theorem own_x8 {a b : Int32} (h : own_ok a) (g : own_ok b) : own_ok (a ^^^ b) := by
  rw [own_okn] at h g ⊢
  rw [Int32.toBitVec_xor, BitVec.toNat_xor]
  exact Nat.xor_lt_two_pow (n := 8) h g
theorem own_c8 {x : Int32} (h : own_ok x) : x.toUInt32.toUInt16.toUInt32.toInt32 = x := own_narb h
theorem own_okc {x : Int32} (h : own_ok x) : own_ok (x.toUInt32.toUInt16.toUInt32.toInt32) := by rw [own_c8 h]; exact h

def own_ws : List Int := [97, 122, 65, 90, 48, 57, 47, 59, 32, 9, 61, 34, 92, 33, 35, 36, 38, 94, 95, 46, 43, 45, 37, 39, 42, 96, 124, 126, 64, 58, 123, 127]
def own_tb : List Int32 := [(97 : Int32), (122 : Int32), (65 : Int32), (90 : Int32), (48 : Int32), (57 : Int32), (47 : Int32), (59 : Int32), (32 : Int32), (9 : Int32), (61 : Int32), (34 : Int32), (92 : Int32), (33 : Int32), (35 : Int32), (36 : Int32), (38 : Int32), (94 : Int32), (95 : Int32), (46 : Int32), (43 : Int32), (45 : Int32), (37 : Int32), (39 : Int32), (42 : Int32), (96 : Int32), (124 : Int32), (126 : Int32), (64 : Int32), (58 : Int32), (123 : Int32), (127 : Int32)]
theorem own_tbd1 : Own.TbD1 method_3_code 4 own_ws 6 := by decide +kernel
theorem own_tbd2 : Own.TbD2 method_3_code 34 own_ws 26 := by decide +kernel
theorem own_tbe : Own.tby own_ws (Own.tby own_ws (List.replicate 32 0) 0 6) 6 26 = own_tb := by decide +kernel

theorem d2_0 : decode J15 0 = .ok (.bipush 32, 2) := by decide +kernel
theorem d2_2 : decode J15 2 = .ok (.newarray .char, 2) := by decide +kernel
theorem d2_190 : decode J15 190 = .ok (.astore_n 1, 1) := by decide +kernel
theorem d2_191 : decode J15 191 = .ok (.aload_n 1, 1) := by decide +kernel
theorem d2_192 : decode J15 192 = .ok (.iload_n 0, 1) := by decide +kernel
theorem d2_193 : decode J15 193 = .ok (.caload, 1) := by decide +kernel
theorem d2_194 : decode J15 194 = .ok (.ireturn, 1) := by decide +kernel
theorem pn_1 : plainName "com/example/pliktflow/pliktflow/deposit/MediaTypeIsWellFormedPinLaw" = true := by first | (simp [plainName, overriddenIn]; done) | decide +kernel
theorem ef_2 (m : MethodId) (p0 : Int32) : entryFrame m #[(.int p0)] 2 = mkF m 0 #[.val (.int p0), .unset] [] := by first | (simp [entryFrame, mkF, argsToLocals, Value.category]; done) | rfl
set_option maxRecDepth 65536 in
set_option maxHeartbeats 40000000 in
theorem cTA (l : Launch) (Z : State) (a0 : Array Value) (hw : ∀ d ∈ tables_1, d.before a0 Z = true) (p0 : Int32) (n0 : Nat) (h0 : Heap) (Z0 : n0 ≤ h0.size) (hp0 : ¬ p0 < 0) (hp31 : p0.toNatClampNeg < own_tb.length) : Own.Con l Z (⟨"com/example/pliktflow/pliktflow/deposit/MediaTypeIsWellFormedPinLaw", "table", "(I)C"⟩ : MethodName) method_3_code 2 (some .char) ({ frames := 0, cells := 1, slots := 32, locals := 0 } : Room) #[(.int p0)] h0 (fun v h L => v = some (.int (nar .char (own_tb.getD p0.toNatClampNeg 0))) ∧ Fr n0 L ∧ Keep h0 h []) := by
  intro ws
  refine MetFree.of_bodySF (plainFor_of_name pn_1) hisR ?_
  intro p e s m args below meth c s₁ Bd hml0 hP hK
  obtain ⟨rfl, hZ, hh⟩ := hP
  have hx := Bd.exec
  have hby := Bd.bytes
  have D := fun {n : Nat} {i} (d : decode method_3_code n = .ok i) => hb hby d
  have hml : c.maxLocals = 2 := hml0
  have hown : s.vm.findClass "com/example/pliktflow/pliktflow/deposit/MediaTypeIsWellFormedPinLaw" = some m.cls := findClass_of_methodNamed Bd.named
  have hnm := (name_of_methodNamed Bd.named Bd.method).1
  have X0 : Stand p l e ({ frames := 0, cells := 1, slots := 32, locals := 0 } : Room) s m #[(.int p0)] below meth c s₁ [] 0 0 := Stand.of_body Bd
  have e0 : s₁.heap = h0 := by rw [← hh, Bd.state]; rfl
  have K0 : ∀ t, Steps p.tables e below (s₁.setTop (mkF m 0 #[vi p0, .unset] [])) t → Steps p.tables e below (s₁.setTop (entryFrame m #[(.int p0)] 2)) t := fun t k => castTop (ef_2 m p0) k
  generalize s₁.setTop (entryFrame m #[(.int p0)] 2) = B0 at K0 ⊢
  show Own.Fin p e below B0 s (({ frames := 0, cells := 1, slots := 32, locals := 0 } : Room)).cells (({ frames := 0, cells := 1, slots := 32, locals := 0 } : Room)).slots (fun v h L => v = some (.int (nar .char (own_tb.getD p0.toNatClampNeg 0))) ∧ Fr n0 L ∧ Keep h0 h [])
  have K1 : Own.To p e below B0 s₁ (mkF m 2 #[vi p0, .unset] [(.int 32)]) := fun t k => K0 t (by
    refine Own.bipush X0 hx 32 (D d2_0) rfl ?_
    exact k)
  obtain ⟨T2, h2, b2, X2, e2, E2, g2, V2, st2⟩ := Own.newA (Ls := #[vi p0, .unset]) (S := []) (z := (32 : Int32)) X0 hx hZ e0 .char rfl rfl (W_ hw 1 rfl) 32 rfl (by decide) (D d2_2) (by decide) (by decide)
  have le_b2 : h0.size ≤ b2 := Nat.le_of_eq g2.symm
  have X2 : Stand p l e ({ frames := 0, cells := 1, slots := 32, locals := 0 } : Room) s m #[(.int p0)] below meth c T2 [] 1 32 := X2
  have V2 : Own.CA Z h2 b2 .char [(0 : Int32), (0 : Int32), (0 : Int32), (0 : Int32), (0 : Int32), (0 : Int32), (0 : Int32), (0 : Int32), (0 : Int32), (0 : Int32), (0 : Int32), (0 : Int32), (0 : Int32), (0 : Int32), (0 : Int32), (0 : Int32), (0 : Int32), (0 : Int32), (0 : Int32), (0 : Int32), (0 : Int32), (0 : Int32), (0 : Int32), (0 : Int32), (0 : Int32), (0 : Int32), (0 : Int32), (0 : Int32), (0 : Int32), (0 : Int32), (0 : Int32), (0 : Int32)] := V2
  have m3 : h0.size ≤ h2.size := E2.1
  have K4 := fun t k => K1 t (st2 t k)
  obtain ⟨T5, h5, L5, X5, e5, N5, K5, V5, st5⟩ := Own.tbR1 (ys := (List.replicate 32 0)) (n0 := n0) (Ls := #[vi p0, .unset]) (S := []) X2 hx hZ e2 own_ws V2 (Fr.nil _) (Nat.le_trans Z0 (Nat.le_trans (Nat.le_refl _) le_b2)) 6 (by decide) (by decide) (by rw [hby]; exact own_tbd1)
  have m6 : h2.size ≤ h5.size := K5.1
  have K7 := fun t k => K4 t (st5 t k)
  obtain ⟨T8, h8, L8, X8, e8, N8, K8, V8, st8⟩ := Own.tbR2 (ys := (Own.tby own_ws (List.replicate 32 0) 0 6)) (n0 := n0) (Ls := #[vi p0, .unset]) (S := []) X5 hx hZ e5 own_ws V5 N5 (Nat.le_trans Z0 (Nat.le_trans (Nat.le_refl _) le_b2)) 26 (by first | decide | rw [Own.tby_len]; decide) (by decide) (by rw [hby]; exact own_tbd2)
  have m9 : h5.size ≤ h8.size := K8.1
  have K10 := fun t k => K7 t (st8 t k)
  rw [own_tbe] at V8
  have K11 : Own.To p e below B0 T8 (mkF m 193 #[vi p0, vr b2] [(.int p0), (.ref b2)]) := fun t k => K10 t (by
    refine Own.astoreN X8 hx #[vi p0, vr b2] (D d2_190) rfl rfl ?_
    refine Own.aloadN X8 hx (D d2_191) rfl rfl ?_
    refine Own.iloadN X8 hx (D d2_192) rfl ?_
    exact k)
  have K12 : Own.To p e below B0 T8 (mkF m 194 #[vi p0, vr b2] [(.int (own_tb.getD p0.toNatClampNeg 0))]) := fun t k => K11 t (by
    refine Own.cal (j := p0) X8 hx hZ e8 V8 (own_tb.getD p0.toNatClampNeg 0) hp0 hp31 rfl (D d2_193) ?_
    exact k)
  have kp := ((((Keep.refl h0 []).ext E2).trans K5 (allS (Or.inr le_b2) all0)).trans K8 (allS (Or.inr le_b2) all0))
  exact Own.finN X8 hx (BodyLoose.notSynchronized Bd) Bd.returns (by simp) (D d2_194) K12 (by decide) (by decide) (by rw [e8]; exact ⟨rfl, N8, kp⟩)

theorem own_31 (x : Int64) : ¬ ((x &&& (31 : Int64)).toInt32) < 0 ∧ ((x &&& (31 : Int64)).toInt32).toNatClampNeg < own_tb.length := by
  have e : ((x &&& (31 : Int64)).toInt32).toBitVec.toNat < 32 := by
    show ((x.toBitVec &&& 31#64).signExtend 32).toNat < 32
    rw [BitVec.signExtend_eq_setWidth_of_le _ (show 32 ≤ 64 by decide), BitVec.toNat_setWidth, BitVec.toNat_and]
    exact Nat.lt_of_le_of_lt (Nat.mod_le _ _) (Nat.lt_of_le_of_lt Nat.and_le_right (by decide))
  have h : ((x &&& (31 : Int64)).toInt32).toInt = ((x &&& (31 : Int64)).toInt32).toBitVec.toNat := by
    show ((x &&& (31 : Int64)).toInt32).toBitVec.toInt = _
    rw [BitVec.toInt_eq_toNat_cond, if_pos (by omega)]
  refine ⟨by rw [Int32.lt_iff_toInt_lt, h, show (0 : Int32).toInt = 0 by decide]; omega, ?_⟩
  show ((x &&& (31 : Int64)).toInt32).toInt.toNat < 32
  rw [h]; omega
def own_dr (q0 : Int64) (p1 : Int32) : Int32 := if ((((q0.toUInt64 >>> (((9 : Int32) * p1) &&& 0x3f).toInt64.toUInt64).toInt64) &&& (511 : Int64)) &&& (256 : Int64)) = (0 : Int64) then nar .char (nar .char (own_tb.getD (((((q0.toUInt64 >>> (((9 : Int32) * p1) &&& 0x3f).toInt64.toUInt64).toInt64) &&& (511 : Int64)) &&& (31 : Int64)).toInt32).toNatClampNeg 0)) else nar .char ((((((q0.toUInt64 >>> (((9 : Int32) * p1) &&& 0x3f).toInt64.toUInt64).toInt64) &&& (511 : Int64)) &&& (255 : Int64)).toInt32).toUInt32.toUInt16.toUInt32.toInt32)

theorem d1_0 : decode J16 0 = .ok (.lload_n 0, 1) := by decide +kernel
theorem d1_1 : decode J16 1 = .ok (.bipush 9, 2) := by decide +kernel
theorem d1_3 : decode J16 3 = .ok (.iload_n 2, 1) := by decide +kernel
theorem d1_4 : decode J16 4 = .ok (.imul, 1) := by decide +kernel
theorem d1_5 : decode J16 5 = .ok (.lushr, 1) := by decide +kernel
theorem d1_6 : decode J16 6 = .ok (.ldc2_w 32, 3) := by decide +kernel
theorem d1_9 : decode J16 9 = .ok (.land, 1) := by decide +kernel
theorem d1_10 : decode J16 10 = .ok (.lstore_n 3, 1) := by decide +kernel
theorem d1_11 : decode J16 11 = .ok (.lload_n 3, 1) := by decide +kernel
theorem d1_12 : decode J16 12 = .ok (.ldc2_w 34, 3) := by decide +kernel
theorem d1_15 : decode J16 15 = .ok (.land, 1) := by decide +kernel
theorem d1_16 : decode J16 16 = .ok (.lconst 0, 1) := by decide +kernel
theorem d1_17 : decode J16 17 = .ok (.lcmp, 1) := by decide +kernel
theorem d1_18 : decode J16 18 = .ok (.ifCond .eq 11, 3) := by decide +kernel
theorem d1_21 : decode J16 21 = .ok (.lload_n 3, 1) := by decide +kernel
theorem d1_22 : decode J16 22 = .ok (.ldc2_w 36, 3) := by decide +kernel
theorem d1_25 : decode J16 25 = .ok (.land, 1) := by decide +kernel
theorem d1_26 : decode J16 26 = .ok (.l2i, 1) := by decide +kernel
theorem d1_27 : decode J16 27 = .ok (.i2c, 1) := by decide +kernel
theorem d1_28 : decode J16 28 = .ok (.ireturn, 1) := by decide +kernel
theorem d1_29 : decode J16 29 = .ok (.lload_n 3, 1) := by decide +kernel
theorem d1_30 : decode J16 30 = .ok (.ldc2_w 38, 3) := by decide +kernel
theorem d1_33 : decode J16 33 = .ok (.land, 1) := by decide +kernel
theorem d1_34 : decode J16 34 = .ok (.l2i, 1) := by decide +kernel
theorem d1_35 : decode J16 35 = .ok (.invokestatic 40, 3) := by decide +kernel
theorem d1_38 : decode J16 38 = .ok (.ireturn, 1) := by decide +kernel
theorem pd_1 : parseMethodDescriptor "(I)C" = some ⟨[.int], some .char⟩ := by decide +kernel
theorem ef_1 (m : MethodId) (q0 : Int64) (p1 : Int32) : entryFrame m #[(.long q0), (.int p1)] 5 = mkF m 0 #[.val (.long q0), .second, .val (.int p1), .unset, .unset] [] := by first | (simp [entryFrame, mkF, argsToLocals, Value.category]; done) | rfl
set_option maxRecDepth 65536 in
set_option maxHeartbeats 40000000 in
theorem cDR (l : Launch) (Z : State) (a0 : Array Value) (hw : ∀ d ∈ tables_1, d.before a0 Z = true) (q0 : Int64) (p1 : Int32) (n0 : Nat) (h0 : Heap) (Z0 : n0 ≤ h0.size) : Own.Con l Z (⟨"com/example/pliktflow/pliktflow/deposit/MediaTypeIsWellFormedPinLaw", "draw", "(JI)C"⟩ : MethodName) method_4_code 5 (some .char) ({ frames := 1, cells := 1, slots := 32, locals := 13 } : Room) #[(.long q0), (.int p1)] h0 (fun v h L => v = some (.int (own_dr q0 p1)) ∧ Fr n0 L ∧ Keep h0 h []) := by
  intro ws
  refine MetFree.of_bodySF (plainFor_of_name pn_1) hisR ?_
  intro p e s m args below meth c s₁ Bd hml0 hP hK
  obtain ⟨rfl, hZ, hh⟩ := hP
  have hx := Bd.exec
  have hby := Bd.bytes
  have D := fun {n : Nat} {i} (d : decode method_4_code n = .ok i) => hb hby d
  have hml : c.maxLocals = 5 := hml0
  have hown : s.vm.findClass "com/example/pliktflow/pliktflow/deposit/MediaTypeIsWellFormedPinLaw" = some m.cls := findClass_of_methodNamed Bd.named
  have hnm := (name_of_methodNamed Bd.named Bd.method).1
  have X0 : Stand p l e ({ frames := 1, cells := 1, slots := 32, locals := 13 } : Room) s m #[(.long q0), (.int p1)] below meth c s₁ [] 0 0 := Stand.of_body Bd
  have e0 : s₁.heap = h0 := by rw [← hh, Bd.state]; rfl
  have K0 : ∀ t, Steps p.tables e below (s₁.setTop (mkF m 0 #[vl q0, .second, vi p1, .unset, .unset] [])) t → Steps p.tables e below (s₁.setTop (entryFrame m #[(.long q0), (.int p1)] 5)) t := fun t k => castTop (ef_1 m q0 p1) k
  generalize s₁.setTop (entryFrame m #[(.long q0), (.int p1)] 5) = B0 at K0 ⊢
  show Own.Fin p e below B0 s (({ frames := 1, cells := 1, slots := 32, locals := 13 } : Room)).cells (({ frames := 1, cells := 1, slots := 32, locals := 13 } : Room)).slots (fun v h L => v = some (.int (own_dr q0 p1)) ∧ Fr n0 L ∧ Keep h0 h [])
  obtain ⟨x1, hx1⟩ : ∃ z : Int64, z = (((q0.toUInt64 >>> (((9 : Int32) * p1) &&& 0x3f).toInt64.toUInt64).toInt64) &&& (511 : Int64)) := ⟨_, rfl⟩
  have K2 : Own.To p e below B0 s₁ (mkF m 18 #[vl q0, .second, vi p1, vl x1, .second] [(.int (lcmpW (x1 &&& (256 : Int64)) (0 : Int64)))]) := fun t k => K0 t (by
    subst hx1
    refine Own.lloadN X0 hx (D d1_0) rfl ?_
    refine Own.bipush X0 hx 9 (D d1_1) rfl ?_
    refine Own.iloadN X0 hx (D d1_3) rfl ?_
    refine Own.imul X0 hx (D d1_4) ?_
    refine Own.lushr X0 hx (D d1_5) ?_
    refine Own.ldc2J X0 hx (511 : Int64) hZ hown (W_ hw 6 rfl) (D d1_6) ?_
    refine Own.land X0 hx (D d1_9) ?_
    refine Own.lstoreN X0 hx #[vl q0, .second, vi p1, vl (((q0.toUInt64 >>> (((9 : Int32) * p1) &&& 0x3f).toInt64.toUInt64).toInt64) &&& (511 : Int64)), .second] (D d1_10) rfl ?_
    refine Own.lloadN X0 hx (D d1_11) rfl ?_
    refine Own.ldc2J X0 hx (256 : Int64) hZ hown (W_ hw 7 rfl) (D d1_12) ?_
    refine Own.land X0 hx (D d1_15) ?_
    refine Own.lconst X0 hx (0 : Int64) (D d1_16) rfl ?_
    refine Own.lcmp X0 hx (D d1_17) ?_
    exact k)
  by_cases hc3 : (x1 &&& (256 : Int64)) = (0 : Int64)
  · have h31 := own_31 x1
    have K4 : Own.To p e below B0 s₁ (mkF m 35 #[vl q0, .second, vi p1, vl x1, .second] [(.int ((x1 &&& (31 : Int64)).toInt32))]) := fun t k => K2 t (by
      refine Own.ifYes X0 hx 29 (D d1_18) (Jvm.Free.XT.ll_eq_t hc3) (by decide) (by decide) ?_
      refine Own.lloadN X0 hx (D d1_29) rfl ?_
      refine Own.ldc2J X0 hx (31 : Int64) hZ hown (W_ hw 8 rfl) (D d1_30) ?_
      refine Own.land X0 hx (D d1_33) ?_
      refine Own.l2i X0 hx (D d1_34) ?_
      exact k)
    obtain ⟨T5, h5, v5, J5, L5, X5, e5, n5, hQ5, st5⟩ := Own.callH (Ls := #[vl q0, .second, vi p1, vl x1, .second]) X0 hx hZ e0 [(.int ((x1 &&& (31 : Int64)).toInt32))] [] (cTA l Z a0 hw ((x1 &&& (31 : Int64)).toInt32) n0 h0 (Nat.le_trans Z0 (Nat.le_refl _)) h31.1 h31.2) hown (W_ hw 9 rfl) (W_ hw 10 rfl) (W_ hw 4 rfl) (W_ hw 11 rfl) (by decide) 0 (by decide) (by decide) (by decide) (by decide) (szOf hml rfl) (lenOf pd_1 rfl) rfl (Nat.le_of_eq rfl) (D d1_35)
    have X5 : Stand p l e ({ frames := 1, cells := 1, slots := 32, locals := 13 } : Room) s m #[(.long q0), (.int p1)] below meth c T5 L5 1 32 := X5
    obtain ⟨rfl, NN5, K5⟩ := hQ5
    have N5 : Fr n0 L5 := n5 n0 (Fr.nil _) NN5
    have m6 : h0.size ≤ h5.size := K5.1
    have K7 := fun t k => K4 t (st5 t k)
    have kp := ((Keep.refl h0 []).trans K5 all0)
    exact Own.finN X5 hx (BodyLoose.notSynchronized Bd) Bd.returns (by simp) (D d1_38) K7 (by decide) (by decide) (by rw [e5]; exact ⟨by subst hx1; unfold own_dr; rw [if_pos hc3], N5, kp⟩)
  · have K8 : Own.To p e below B0 s₁ (mkF m 28 #[vl q0, .second, vi p1, vl x1, .second] [(.int (((x1 &&& (255 : Int64)).toInt32).toUInt32.toUInt16.toUInt32.toInt32))]) := fun t k => K2 t (by
      refine Own.ifNo X0 hx (D d1_18) (Jvm.Free.XT.ll_eq_f hc3) ?_
      refine Own.lloadN X0 hx (D d1_21) rfl ?_
      refine Own.ldc2J X0 hx (255 : Int64) hZ hown (W_ hw 12 rfl) (D d1_22) ?_
      refine Own.land X0 hx (D d1_25) ?_
      refine Own.l2i X0 hx (D d1_26) ?_
      refine Own.i2c X0 hx (D d1_27) ?_
      exact k)
    have kp := (Keep.refl h0 [])
    exact Own.finN X0 hx (BodyLoose.notSynchronized Bd) Bd.returns (by simp) (D d1_28) K8 (by decide) (by decide) (by rw [e0]; exact ⟨by subst hx1; unfold own_dr; rw [if_neg hc3], Fr.nil _, kp⟩)

theorem own_12 {p : Int32} (h0 : ¬ p = (0 : Int32)) (h1 : ¬ p = (1 : Int32)) (h2 : ¬ p = (2 : Int32)) (h3 : ¬ p = (3 : Int32)) (h4 : ¬ p = (4 : Int32)) (h5 : ¬ p = (5 : Int32)) (h6 : ¬ p = (6 : Int32)) (h7 : ¬ p = (7 : Int32)) (h8 : ¬ p = (8 : Int32)) (h9 : ¬ p = (9 : Int32)) (h10 : ¬ p = (10 : Int32)) (h11 : ¬ p = (11 : Int32)) (h : ¬ p < 0 ∧ ¬ (12 : Int32) < p) : p.toNatClampNeg = 12 := by
  obtain ⟨ha, hb⟩ := h
  rw [Int32.lt_iff_toInt_lt, show (0 : Int32).toInt = 0 by decide] at ha
  rw [Int32.lt_iff_toInt_lt, show (12 : Int32).toInt = 12 by decide] at hb
  rw [← Int32.toInt_inj] at h0 h1 h2 h3 h4 h5 h6 h7 h8 h9 h10 h11
  rw [show (0 : Int32).toInt = 0 by decide] at h0
  rw [show (1 : Int32).toInt = 1 by decide] at h1
  rw [show (2 : Int32).toInt = 2 by decide] at h2
  rw [show (3 : Int32).toInt = 3 by decide] at h3
  rw [show (4 : Int32).toInt = 4 by decide] at h4
  rw [show (5 : Int32).toInt = 5 by decide] at h5
  rw [show (6 : Int32).toInt = 6 by decide] at h6
  rw [show (7 : Int32).toInt = 7 by decide] at h7
  rw [show (8 : Int32).toInt = 8 by decide] at h8
  rw [show (9 : Int32).toInt = 9 by decide] at h9
  rw [show (10 : Int32).toInt = 10 by decide] at h10
  rw [show (11 : Int32).toInt = 11 by decide] at h11
  show p.toInt.toNat = 12
  omega

theorem own_cpd1_27 : Own.CpD1 method_5_code 27 1 := by decide +kernel
theorem own_cpd1_49 : Own.CpD1 method_5_code 49 2 := by decide +kernel
theorem own_cpd1_77 : Own.CpD1 method_5_code 77 3 := by decide +kernel
theorem own_cpd1_111 : Own.CpD1 method_5_code 111 4 := by decide +kernel
theorem own_cpd1_151 : Own.CpD1 method_5_code 151 5 := by decide +kernel
theorem own_cpd1_199 : Own.CpD1 method_5_code 199 6 := by decide +kernel
theorem own_cpd1_253 : Own.CpD1 method_5_code 253 6 := by decide +kernel
theorem own_cpd2_289 : Own.CpD2 method_5_code 289 1 := by decide +kernel
theorem own_cpd1_315 : Own.CpD1 method_5_code 315 6 := by decide +kernel
theorem own_cpd2_351 : Own.CpD2 method_5_code 351 2 := by decide +kernel
theorem own_cpd1_385 : Own.CpD1 method_5_code 385 6 := by decide +kernel
theorem own_cpd2_421 : Own.CpD2 method_5_code 421 3 := by decide +kernel
theorem own_cpd1_463 : Own.CpD1 method_5_code 463 6 := by decide +kernel
theorem own_cpd2_499 : Own.CpD2 method_5_code 499 4 := by decide +kernel
theorem own_cpd1_549 : Own.CpD1 method_5_code 549 6 := by decide +kernel
theorem own_cpd2_585 : Own.CpD2 method_5_code 585 5 := by decide +kernel
theorem own_cpd1_637 : Own.CpD1 method_5_code 637 6 := by decide +kernel
theorem own_cpd2_673 : Own.CpD2 method_5_code 673 6 := by decide +kernel

theorem d3_0 : decode J17 0 = .ok (.iload_n 1, 1) := by decide +kernel
theorem d3_1 : decode J17 1 = .ok (.ifCond .ne 14, 3) := by decide +kernel
theorem d3_4 : decode J17 4 = .ok (.new 44, 3) := by decide +kernel
theorem d3_7 : decode J17 7 = .ok (.dup, 1) := by decide +kernel
theorem d3_8 : decode J17 8 = .ok (.iconst 0, 1) := by decide +kernel
theorem d3_9 : decode J17 9 = .ok (.newarray .char, 2) := by decide +kernel
theorem d3_11 : decode J17 11 = .ok (.invokespecial 46, 3) := by decide +kernel
theorem d3_14 : decode J17 14 = .ok (.areturn, 1) := by decide +kernel
theorem d3_15 : decode J17 15 = .ok (.iload_n 1, 1) := by decide +kernel
theorem d3_16 : decode J17 16 = .ok (.iconst 1, 1) := by decide +kernel
theorem d3_17 : decode J17 17 = .ok (.if_icmp .ne 20, 3) := by decide +kernel
theorem d3_20 : decode J17 20 = .ok (.new 44, 3) := by decide +kernel
theorem d3_23 : decode J17 23 = .ok (.dup, 1) := by decide +kernel
theorem d3_24 : decode J17 24 = .ok (.iconst 1, 1) := by decide +kernel
theorem d3_25 : decode J17 25 = .ok (.newarray .char, 2) := by decide +kernel
theorem d3_33 : decode J17 33 = .ok (.invokespecial 46, 3) := by decide +kernel
theorem d3_36 : decode J17 36 = .ok (.areturn, 1) := by decide +kernel
theorem d3_37 : decode J17 37 = .ok (.iload_n 1, 1) := by decide +kernel
theorem d3_38 : decode J17 38 = .ok (.iconst 2, 1) := by decide +kernel
theorem d3_39 : decode J17 39 = .ok (.if_icmp .ne 26, 3) := by decide +kernel
theorem d3_42 : decode J17 42 = .ok (.new 44, 3) := by decide +kernel
theorem d3_45 : decode J17 45 = .ok (.dup, 1) := by decide +kernel
theorem d3_46 : decode J17 46 = .ok (.iconst 2, 1) := by decide +kernel
theorem d3_47 : decode J17 47 = .ok (.newarray .char, 2) := by decide +kernel
theorem d3_61 : decode J17 61 = .ok (.invokespecial 46, 3) := by decide +kernel
theorem d3_64 : decode J17 64 = .ok (.areturn, 1) := by decide +kernel
theorem d3_65 : decode J17 65 = .ok (.iload_n 1, 1) := by decide +kernel
theorem d3_66 : decode J17 66 = .ok (.iconst 3, 1) := by decide +kernel
theorem d3_67 : decode J17 67 = .ok (.if_icmp .ne 32, 3) := by decide +kernel
theorem d3_70 : decode J17 70 = .ok (.new 44, 3) := by decide +kernel
theorem d3_73 : decode J17 73 = .ok (.dup, 1) := by decide +kernel
theorem d3_74 : decode J17 74 = .ok (.iconst 3, 1) := by decide +kernel
theorem d3_75 : decode J17 75 = .ok (.newarray .char, 2) := by decide +kernel
theorem d3_95 : decode J17 95 = .ok (.invokespecial 46, 3) := by decide +kernel
theorem d3_98 : decode J17 98 = .ok (.areturn, 1) := by decide +kernel
theorem d3_99 : decode J17 99 = .ok (.iload_n 1, 1) := by decide +kernel
theorem d3_100 : decode J17 100 = .ok (.iconst 4, 1) := by decide +kernel
theorem d3_101 : decode J17 101 = .ok (.if_icmp .ne 38, 3) := by decide +kernel
theorem d3_104 : decode J17 104 = .ok (.new 44, 3) := by decide +kernel
theorem d3_107 : decode J17 107 = .ok (.dup, 1) := by decide +kernel
theorem d3_108 : decode J17 108 = .ok (.iconst 4, 1) := by decide +kernel
theorem d3_109 : decode J17 109 = .ok (.newarray .char, 2) := by decide +kernel
theorem d3_135 : decode J17 135 = .ok (.invokespecial 46, 3) := by decide +kernel
theorem d3_138 : decode J17 138 = .ok (.areturn, 1) := by decide +kernel
theorem d3_139 : decode J17 139 = .ok (.iload_n 1, 1) := by decide +kernel
theorem d3_140 : decode J17 140 = .ok (.iconst 5, 1) := by decide +kernel
theorem d3_141 : decode J17 141 = .ok (.if_icmp .ne 44, 3) := by decide +kernel
theorem d3_144 : decode J17 144 = .ok (.new 44, 3) := by decide +kernel
theorem d3_147 : decode J17 147 = .ok (.dup, 1) := by decide +kernel
theorem d3_148 : decode J17 148 = .ok (.iconst 5, 1) := by decide +kernel
theorem d3_149 : decode J17 149 = .ok (.newarray .char, 2) := by decide +kernel
theorem d3_181 : decode J17 181 = .ok (.invokespecial 46, 3) := by decide +kernel
theorem d3_184 : decode J17 184 = .ok (.areturn, 1) := by decide +kernel
theorem d3_185 : decode J17 185 = .ok (.iload_n 1, 1) := by decide +kernel
theorem d3_186 : decode J17 186 = .ok (.bipush 6, 2) := by decide +kernel
theorem d3_188 : decode J17 188 = .ok (.if_icmp .ne 51, 3) := by decide +kernel
theorem d3_191 : decode J17 191 = .ok (.new 44, 3) := by decide +kernel
theorem d3_194 : decode J17 194 = .ok (.dup, 1) := by decide +kernel
theorem d3_195 : decode J17 195 = .ok (.bipush 6, 2) := by decide +kernel
theorem d3_197 : decode J17 197 = .ok (.newarray .char, 2) := by decide +kernel
theorem d3_235 : decode J17 235 = .ok (.invokespecial 46, 3) := by decide +kernel
theorem d3_238 : decode J17 238 = .ok (.areturn, 1) := by decide +kernel
theorem d3_239 : decode J17 239 = .ok (.iload_n 1, 1) := by decide +kernel
theorem d3_240 : decode J17 240 = .ok (.bipush 7, 2) := by decide +kernel
theorem d3_242 : decode J17 242 = .ok (.if_icmp .ne 59, 3) := by decide +kernel
theorem d3_245 : decode J17 245 = .ok (.new 44, 3) := by decide +kernel
theorem d3_248 : decode J17 248 = .ok (.dup, 1) := by decide +kernel
theorem d3_249 : decode J17 249 = .ok (.bipush 7, 2) := by decide +kernel
theorem d3_251 : decode J17 251 = .ok (.newarray .char, 2) := by decide +kernel
theorem d3_297 : decode J17 297 = .ok (.invokespecial 46, 3) := by decide +kernel
theorem d3_300 : decode J17 300 = .ok (.areturn, 1) := by decide +kernel
theorem d3_301 : decode J17 301 = .ok (.iload_n 1, 1) := by decide +kernel
theorem d3_302 : decode J17 302 = .ok (.bipush 8, 2) := by decide +kernel
theorem d3_304 : decode J17 304 = .ok (.if_icmp .ne 67, 3) := by decide +kernel
theorem d3_307 : decode J17 307 = .ok (.new 44, 3) := by decide +kernel
theorem d3_310 : decode J17 310 = .ok (.dup, 1) := by decide +kernel
theorem d3_311 : decode J17 311 = .ok (.bipush 8, 2) := by decide +kernel
theorem d3_313 : decode J17 313 = .ok (.newarray .char, 2) := by decide +kernel
theorem d3_367 : decode J17 367 = .ok (.invokespecial 46, 3) := by decide +kernel
theorem d3_370 : decode J17 370 = .ok (.areturn, 1) := by decide +kernel
theorem d3_371 : decode J17 371 = .ok (.iload_n 1, 1) := by decide +kernel
theorem d3_372 : decode J17 372 = .ok (.bipush 9, 2) := by decide +kernel
theorem d3_374 : decode J17 374 = .ok (.if_icmp .ne 75, 3) := by decide +kernel
theorem d3_377 : decode J17 377 = .ok (.new 44, 3) := by decide +kernel
theorem d3_380 : decode J17 380 = .ok (.dup, 1) := by decide +kernel
theorem d3_381 : decode J17 381 = .ok (.bipush 9, 2) := by decide +kernel
theorem d3_383 : decode J17 383 = .ok (.newarray .char, 2) := by decide +kernel
theorem d3_445 : decode J17 445 = .ok (.invokespecial 46, 3) := by decide +kernel
theorem d3_448 : decode J17 448 = .ok (.areturn, 1) := by decide +kernel
theorem d3_449 : decode J17 449 = .ok (.iload_n 1, 1) := by decide +kernel
theorem d3_450 : decode J17 450 = .ok (.bipush 10, 2) := by decide +kernel
theorem d3_452 : decode J17 452 = .ok (.if_icmp .ne 83, 3) := by decide +kernel
theorem d3_455 : decode J17 455 = .ok (.new 44, 3) := by decide +kernel
theorem d3_458 : decode J17 458 = .ok (.dup, 1) := by decide +kernel
theorem d3_459 : decode J17 459 = .ok (.bipush 10, 2) := by decide +kernel
theorem d3_461 : decode J17 461 = .ok (.newarray .char, 2) := by decide +kernel
theorem d3_531 : decode J17 531 = .ok (.invokespecial 46, 3) := by decide +kernel
theorem d3_534 : decode J17 534 = .ok (.areturn, 1) := by decide +kernel
theorem d3_535 : decode J17 535 = .ok (.iload_n 1, 1) := by decide +kernel
theorem d3_536 : decode J17 536 = .ok (.bipush 11, 2) := by decide +kernel
theorem d3_538 : decode J17 538 = .ok (.if_icmp .ne 91, 3) := by decide +kernel
theorem d3_541 : decode J17 541 = .ok (.new 44, 3) := by decide +kernel
theorem d3_544 : decode J17 544 = .ok (.dup, 1) := by decide +kernel
theorem d3_545 : decode J17 545 = .ok (.bipush 11, 2) := by decide +kernel
theorem d3_547 : decode J17 547 = .ok (.newarray .char, 2) := by decide +kernel
theorem d3_625 : decode J17 625 = .ok (.invokespecial 46, 3) := by decide +kernel
theorem d3_628 : decode J17 628 = .ok (.areturn, 1) := by decide +kernel
theorem d3_629 : decode J17 629 = .ok (.new 44, 3) := by decide +kernel
theorem d3_632 : decode J17 632 = .ok (.dup, 1) := by decide +kernel
theorem d3_633 : decode J17 633 = .ok (.bipush 12, 2) := by decide +kernel
theorem d3_635 : decode J17 635 = .ok (.newarray .char, 2) := by decide +kernel
theorem d3_721 : decode J17 721 = .ok (.invokespecial 46, 3) := by decide +kernel
theorem d3_724 : decode J17 724 = .ok (.areturn, 1) := by decide +kernel
theorem pd_2 : parseMethodDescriptor "([C)V" = some ⟨[(.array .char)], none⟩ := by decide +kernel
theorem ef_3 (m : MethodId) (o0 : Addr) (p1 : Int32) : entryFrame m #[(.ref o0), (.int p1)] 2 = mkF m 0 #[.val (.ref o0), .val (.int p1)] [] := by first | (simp [entryFrame, mkF, argsToLocals, Value.category]; done) | rfl
set_option maxRecDepth 65536 in
set_option maxHeartbeats 40000000 in
theorem cMK (l : Launch) (Z : State) (a0 : Array Value) (hw : ∀ d ∈ tables_1, d.before a0 Z = true) (o0 : Addr) (p1 : Int32) (n0 : Nat) (G1 : Int32) (c0_ : Int32) (c1_ : Int32) (c2_ : Int32) (c3_ : Int32) (c4_ : Int32) (c5_ : Int32) (c6_ : Int32) (c7_ : Int32) (c8_ : Int32) (c9_ : Int32) (c10_ : Int32) (c11_ : Int32) (h0 : Heap) (Z0 : n0 ≤ h0.size) (A0 : Own.CA Z h0 o0 .char [c0_, c1_, c2_, c3_, c4_, c5_, c6_, c7_, c8_, c9_, c10_, c11_]) (hbc0_ : own_ok c0_) (hbc1_ : own_ok c1_) (hbc2_ : own_ok c2_) (hbc3_ : own_ok c3_) (hbc4_ : own_ok c4_) (hbc5_ : own_ok c5_) (hbc6_ : own_ok c6_) (hbc7_ : own_ok c7_) (hbc8_ : own_ok c8_) (hbc9_ : own_ok c9_) (hbc10_ : own_ok c10_) (hbc11_ : own_ok c11_) (hp1 : ¬ p1 < 0 ∧ ¬ (12 : Int32) < p1) (SC : Sta Z h0 "java/lang/String" "COMPACT_STRINGS" "Z" (.int G1)) (hG1 : ¬ G1 = 0) : Own.ConH l Z own_EL (⟨"com/example/pliktflow/pliktflow/deposit/MediaTypeIsWellFormedPinLaw", "make", "([CI)Ljava/lang/String;"⟩ : MethodName) method_5_code 2 (some (.object "java/lang/String")) ({ frames := 4, cells := 8, slots := 40, locals := 66 } : Room) #[(.ref o0), (.int p1)] h0 (fun v h L => ∃ b, v = some (.ref b) ∧ Fr n0 L ∧ Keep h0 h [] ∧ own_Txt Z h b ([c0_, c1_, c2_, c3_, c4_, c5_, c6_, c7_, c8_, c9_, c10_, c11_].take p1.toNatClampNeg)) := by
  intro ws
  refine MetFree.of_bodySF (plainFor_of_name pn_1) hisR ?_
  intro p e s m args below meth c s₁ Bd hml0 hP hK
  obtain ⟨rfl, hZ, hh, hH⟩ := hP
  have hx := Bd.exec
  have hby := Bd.bytes
  have D := fun {n : Nat} {i} (d : decode method_5_code n = .ok i) => hb hby d
  have hml : c.maxLocals = 2 := hml0
  have hown : s.vm.findClass "com/example/pliktflow/pliktflow/deposit/MediaTypeIsWellFormedPinLaw" = some m.cls := findClass_of_methodNamed Bd.named
  have hnm := (name_of_methodNamed Bd.named Bd.method).1
  have X0 : Stand p l e ({ frames := 4, cells := 8, slots := 40, locals := 66 } : Room) (s.setVm s.vm) m #[(.ref o0), (.int p1)] below meth c s₁ [] 0 0 := Stand.of_body Bd
  have e0 : s₁.heap = h0 := by rw [← hh, Bd.state]; rfl
  have D0 : Own.Wd s Z own_EL "com/example/pliktflow/pliktflow/deposit/MediaTypeIsWellFormedPinLaw" m.cls s.vm h0 := by rw [← hh]; exact Own.Wd.start hZ hown (by rw [hh]; exact hH)
  have K0 : ∀ t, Steps p.tables e below (s₁.setTop (mkF m 0 #[vr o0, vi p1] [])) t → Steps p.tables e below (s₁.setTop (entryFrame m #[(.ref o0), (.int p1)] 2)) t := fun t k => castTop (ef_3 m o0 p1) k
  generalize s₁.setTop (entryFrame m #[(.ref o0), (.int p1)] 2) = B0 at K0 ⊢
  show Own.FinH p e below B0 s Z own_EL (({ frames := 4, cells := 8, slots := 40, locals := 66 } : Room)).cells (({ frames := 4, cells := 8, slots := 40, locals := 66 } : Room)).slots (fun v h L => ∃ b, v = some (.ref b) ∧ Fr n0 L ∧ Keep h0 h [] ∧ own_Txt Z h b ([c0_, c1_, c2_, c3_, c4_, c5_, c6_, c7_, c8_, c9_, c10_, c11_].take p1.toNatClampNeg))
  have own_hnx : ∀ v ∈ ([c0_, c1_, c2_, c3_, c4_, c5_, c6_, c7_, c8_, c9_, c10_, c11_] : List Int32), nar .char v = v := by
    intro c hc; simp only [List.mem_cons, List.not_mem_nil, or_false] at hc
    rcases hc with rfl | rfl | rfl | rfl | rfl | rfl | rfl | rfl | rfl | rfl | rfl | rfl
    · exact own_narb hbc0_
    · exact own_narb hbc1_
    · exact own_narb hbc2_
    · exact own_narb hbc3_
    · exact own_narb hbc4_
    · exact own_narb hbc5_
    · exact own_narb hbc6_
    · exact own_narb hbc7_
    · exact own_narb hbc8_
    · exact own_narb hbc9_
    · exact own_narb hbc10_
    · exact own_narb hbc11_
  have K1 : Own.To p e below B0 s₁ (mkF m 1 #[vr o0, vi p1] [(.int p1)]) := fun t k => K0 t (by
    refine Own.iloadN X0 hx (D d3_0) rfl ?_
    exact k)
  by_cases hc2 : p1 = (0 : Int32)
  · have K3 : Own.To p e below B0 s₁ (mkF m 4 #[vr o0, vi p1] []) := fun t k => K1 t (by
      refine Own.ifNo X0 hx (D d3_1) ((if0 _ _).trans (teq hc2).2) ?_
      exact k)
    obtain ⟨T4, h4, b4, X4, e4, E4, g4, A4, D4, st4⟩ := Own.newO (Ls := #[vr o0, vi p1]) (S := []) X0 hx D0.hZ e0 D0.hown (W_ hw 16 rfl) (W_ hw 17 rfl) (W_ hw 18 rfl) (D d3_4) (by decide) (by decide)
    have le_b4 : h0.size ≤ b4 := Nat.le_of_eq g4.symm
    have X4 : Stand p l e ({ frames := 4, cells := 8, slots := 40, locals := 66 } : Room) (s.setVm s.vm) m #[(.ref o0), (.int p1)] below meth c T4 [] 1 4 := X4
    have m5 : h0.size ≤ h4.size := E4.1
    have D5 := D0.ext E4
    have F4_value : Fld Z h4 b4 "java/lang/String" "value" "[B" .null := D4 (Or.inr (W_ hw 31 rfl)) (ty := (.array .byte)) (by decide)
    have F4_coder : Fld Z h4 b4 "java/lang/String" "coder" "B" (.int 0) := D4 (Or.inr (W_ hw 32 rfl)) (ty := .byte) (by decide)
    have K6 := fun t k => K3 t (st4 t k)
    have K7 : Own.To p e below B0 T4 (mkF m 9 #[vr o0, vi p1] [(.int 0), (.ref b4), (.ref b4)]) := fun t k => K6 t (by
      refine Own.dup X4 hx (D d3_7) rfl ?_
      refine Own.iconst X4 hx 0 (D d3_8) rfl ?_
      exact k)
    obtain ⟨T8, h8, b8, X8, e8, E8, g8, V8, st8⟩ := Own.newA (Ls := #[vr o0, vi p1]) (S := [(.ref b4), (.ref b4)]) (z := (0 : Int32)) X4 hx D5.hZ e4 .char rfl rfl (W_ hw 1 rfl) 0 rfl (by decide) (D d3_9) (by decide) (by decide)
    have le_b8 : h4.size ≤ b8 := Nat.le_of_eq g8.symm
    have X8 : Stand p l e ({ frames := 4, cells := 8, slots := 40, locals := 66 } : Room) (s.setVm s.vm) m #[(.ref o0), (.int p1)] below meth c T8 [] 2 4 := X8
    have V8 : Own.CA Z h8 b8 .char [] := V8
    have m9 : h4.size ≤ h8.size := E8.1
    have D9 := D5.ext E8
    have K10 := fun t k => K7 t (st8 t k)
    have f11 := (A4.ext E8)
    have f12 := (F4_value.ext E8)
    have f13 := (F4_coder.ext E8)
    obtain ⟨vm14, T14, h14, v14, J14, L14, X14, e14, D14, mm14, n14, hQ14, st14⟩ := Own.callIW (Ls := #[vr o0, vi p1]) X8 hx (own_hEL hw) D9 e8 rfl b4 [(.ref b8)] [(.ref b4)] (cE1 l Z a0 hw b4 b8 n0 (.int 0) h8 (Nat.le_trans Z0 (Nat.le_trans m5 m9)) f11 f12 f13 (Nat.le_trans Z0 (Nat.le_trans (Nat.le_refl _) le_b4)) V8) (W_ hw 19 rfl) (W_ hw 20 rfl) (W_ hw 18 rfl) (W_ hw 21 rfl) (by decide) 1 (by decide) (by decide) (by decide) (by decide) (szOf hml rfl) (lenOf pd_2 rfl) rfl (Nat.le_of_eq rfl) (D d3_11)
    have X14 : Stand p l e ({ frames := 4, cells := 8, slots := 40, locals := 66 } : Room) (s.setVm vm14) m #[(.ref o0), (.int p1)] below meth c T14 L14 6 12 := X14
    obtain ⟨rfl, NN14, K14, t14⟩ := hQ14
    have N14 : Fr n0 L14 := n14 n0 (Fr.nil _) NN14
    have m15 : h8.size ≤ h14.size := K14.1
    have K16 := fun t k => K10 t (st14 t k)
    have kp := ((((Keep.refl h0 []).ext E4).ext E8).trans K14 (allS (Or.inr le_b4) all0))
    have tt : own_Txt Z h14 b4 ([c0_, c1_, c2_, c3_, c4_, c5_, c6_, c7_, c8_, c9_, c10_, c11_].take p1.toNatClampNeg) := by rw [hc2]; exact t14
    exact Own.finHA X14 hx (own_hEL hw) e14 D14 (BodyLoose.notSynchronized Bd) Bd.returns rfl rfl (D d3_14) K16 (by decide) (by decide) (by rw [e14]; exact ⟨_, rfl, N14, kp, tt⟩)
  · have K17 : Own.To p e below B0 s₁ (mkF m 17 #[vr o0, vi p1] [(.int 1), (.int p1)]) := fun t k => K1 t (by
      refine Own.ifYes X0 hx 15 (D d3_1) ((if0 _ _).trans (feq hc2).2) (by decide) (by decide) ?_
      refine Own.iloadN X0 hx (D d3_15) rfl ?_
      refine Own.iconst X0 hx 1 (D d3_16) rfl ?_
      exact k)
    by_cases hc18 : p1 = (1 : Int32)
    · have K19 : Own.To p e below B0 s₁ (mkF m 20 #[vr o0, vi p1] []) := fun t k => K17 t (by
        refine Own.icmpNo X0 hx (D d3_17) (teq hc18).2 ?_
        exact k)
      obtain ⟨T20, h20, b20, X20, e20, E20, g20, A20, D20, st20⟩ := Own.newO (Ls := #[vr o0, vi p1]) (S := []) X0 hx D0.hZ e0 D0.hown (W_ hw 16 rfl) (W_ hw 17 rfl) (W_ hw 18 rfl) (D d3_20) (by decide) (by decide)
      have le_b20 : h0.size ≤ b20 := Nat.le_of_eq g20.symm
      have X20 : Stand p l e ({ frames := 4, cells := 8, slots := 40, locals := 66 } : Room) (s.setVm s.vm) m #[(.ref o0), (.int p1)] below meth c T20 [] 1 4 := X20
      have m21 : h0.size ≤ h20.size := E20.1
      have D21 := D0.ext E20
      have F20_value : Fld Z h20 b20 "java/lang/String" "value" "[B" .null := D20 (Or.inr (W_ hw 31 rfl)) (ty := (.array .byte)) (by decide)
      have F20_coder : Fld Z h20 b20 "java/lang/String" "coder" "B" (.int 0) := D20 (Or.inr (W_ hw 32 rfl)) (ty := .byte) (by decide)
      have K22 := fun t k => K19 t (st20 t k)
      have K23 : Own.To p e below B0 T20 (mkF m 25 #[vr o0, vi p1] [(.int 1), (.ref b20), (.ref b20)]) := fun t k => K22 t (by
        refine Own.dup X20 hx (D d3_23) rfl ?_
        refine Own.iconst X20 hx 1 (D d3_24) rfl ?_
        exact k)
      obtain ⟨T24, h24, b24, X24, e24, E24, g24, V24, st24⟩ := Own.newA (Ls := #[vr o0, vi p1]) (S := [(.ref b20), (.ref b20)]) (z := (1 : Int32)) X20 hx D21.hZ e20 .char rfl rfl (W_ hw 1 rfl) 1 rfl (by decide) (D d3_25) (by decide) (by decide)
      have le_b24 : h20.size ≤ b24 := Nat.le_of_eq g24.symm
      have X24 : Stand p l e ({ frames := 4, cells := 8, slots := 40, locals := 66 } : Room) (s.setVm s.vm) m #[(.ref o0), (.int p1)] below meth c T24 [] 2 5 := X24
      have V24 : Own.CA Z h24 b24 .char [(0 : Int32)] := V24
      have m25 : h20.size ≤ h24.size := E24.1
      have D25 := D21.ext E24
      have K26 := fun t k => K23 t (st24 t k)
      have f27 := ((A0.ext E20).ext E24)
      obtain ⟨T28, h28, L28, X28, e28, N28, K28, V28, st28⟩ := Own.cpR1 (n0 := n0) (Ls := #[vr o0, vi p1]) (S := [(.ref b20), (.ref b20)]) X24 hx D25.hZ e24 f27 V24 (Nat.ne_of_lt (Nat.lt_of_lt_of_le (A0.ext E20).lt le_b24)) (Fr.nil _) (Nat.le_trans Z0 (Nat.le_trans m21 le_b24)) own_hnx rfl 1 (Nat.le_of_ble_eq_true rfl) (Nat.le_of_ble_eq_true rfl) (by decide) (by rw [hby]; exact own_cpd1_27)
      have V28 : Own.CA Z h28 b24 .char [c0_] := V28
      have m29 : h24.size ≤ h28.size := K28.1
      have D29 := D25.keep K28 (sfS (Own.CA.safe D25.hZ.alike V24 (by decide)) sf0)
      have K30 := fun t k => K26 t (st28 t k)
      have f32 := ((A20.ext E24).keep K28)
      have f33 := ((F20_value.ext E24).keep K28 (ninS (Nat.ne_of_lt (Nat.lt_of_lt_of_le A20.lt le_b24)) nin0))
      have f34 := ((F20_coder.ext E24).keep K28 (ninS (Nat.ne_of_lt (Nat.lt_of_lt_of_le A20.lt le_b24)) nin0))
      have f35 := (Own.sta_keepG ((SC.ext E20).ext E24) K28 (allS (Own.ns_ca V24) all0))
      have hp : ∀ c ∈ ([c0_] : List Int32), ¬ c < 0 ∧ ¬ (255 : Int32) < c := by
        intro c hc; simp only [List.mem_cons, List.not_mem_nil, or_false] at hc
        rcases hc with rfl
        · exact hbc0_
      obtain ⟨T31, h31, J31, L31, X31, e31, n31, NN31, K31, t31, st31⟩ := own_newS (Ls := #[vr o0, vi p1]) (cs := [c0_]) (n := 1) (n0 := n0) X28 hx D29.hZ e28 hw (W_ hw 17 rfl) D29.hown rfl (Nat.le_trans Z0 (Nat.le_trans (Nat.le_refl _) le_b20)) (Nat.le_trans Z0 (Nat.le_trans (Nat.le_trans m21 m25) m29)) f32 f33 f34 V28 f35 hG1 (by decide) (by decide) hp (W_ hw 19 rfl) (W_ hw 20 rfl) (W_ hw 21 rfl) [(.ref b20)] 1 (by decide) (by decide) (by decide) (by decide) (by rw [hml]; rfl) (lenOf pd_2 rfl) (Nat.le_of_eq rfl) (D d3_33)
      have X31 : Stand p l e ({ frames := 4, cells := 8, slots := 40, locals := 66 } : Room) (s.setVm s.vm) m #[(.ref o0), (.int p1)] below meth c T31 L31 3 6 := X31
      have N31 : Fr n0 L31 := n31 n0 N28 NN31
      have m36 : h28.size ≤ h31.size := K31.1
      have D36 := D29.keep K31 (sfS (Own.safe_null D29.hZ.alike f32 f33) sf0)
      have K37 := fun t k => K30 t (st31 t k)
      have kp := (((((Keep.refl h0 []).ext E20).ext E24).trans K28 (allS (Or.inr (Nat.le_trans m21 le_b24)) all0)).trans K31 (allS (Or.inr le_b20) all0))
      have tt : own_Txt Z h31 b20 ([c0_, c1_, c2_, c3_, c4_, c5_, c6_, c7_, c8_, c9_, c10_, c11_].take p1.toNatClampNeg) := by rw [hc18]; exact t31
      exact Own.finHA X31 hx (own_hEL hw) e31 D36 (BodyLoose.notSynchronized Bd) Bd.returns rfl rfl (D d3_36) K37 (by decide) (by decide) (by rw [e31]; exact ⟨_, rfl, N31, kp, tt⟩)
    · have K38 : Own.To p e below B0 s₁ (mkF m 39 #[vr o0, vi p1] [(.int 2), (.int p1)]) := fun t k => K17 t (by
        refine Own.icmpYes X0 hx 37 (D d3_17) (feq hc18).2 (by decide) (by decide) ?_
        refine Own.iloadN X0 hx (D d3_37) rfl ?_
        refine Own.iconst X0 hx 2 (D d3_38) rfl ?_
        exact k)
      by_cases hc39 : p1 = (2 : Int32)
      · have K40 : Own.To p e below B0 s₁ (mkF m 42 #[vr o0, vi p1] []) := fun t k => K38 t (by
          refine Own.icmpNo X0 hx (D d3_39) (teq hc39).2 ?_
          exact k)
        obtain ⟨T41, h41, b41, X41, e41, E41, g41, A41, D41, st41⟩ := Own.newO (Ls := #[vr o0, vi p1]) (S := []) X0 hx D0.hZ e0 D0.hown (W_ hw 16 rfl) (W_ hw 17 rfl) (W_ hw 18 rfl) (D d3_42) (by decide) (by decide)
        have le_b41 : h0.size ≤ b41 := Nat.le_of_eq g41.symm
        have X41 : Stand p l e ({ frames := 4, cells := 8, slots := 40, locals := 66 } : Room) (s.setVm s.vm) m #[(.ref o0), (.int p1)] below meth c T41 [] 1 4 := X41
        have m42 : h0.size ≤ h41.size := E41.1
        have D42 := D0.ext E41
        have F41_value : Fld Z h41 b41 "java/lang/String" "value" "[B" .null := D41 (Or.inr (W_ hw 31 rfl)) (ty := (.array .byte)) (by decide)
        have F41_coder : Fld Z h41 b41 "java/lang/String" "coder" "B" (.int 0) := D41 (Or.inr (W_ hw 32 rfl)) (ty := .byte) (by decide)
        have K43 := fun t k => K40 t (st41 t k)
        have K44 : Own.To p e below B0 T41 (mkF m 47 #[vr o0, vi p1] [(.int 2), (.ref b41), (.ref b41)]) := fun t k => K43 t (by
          refine Own.dup X41 hx (D d3_45) rfl ?_
          refine Own.iconst X41 hx 2 (D d3_46) rfl ?_
          exact k)
        obtain ⟨T45, h45, b45, X45, e45, E45, g45, V45, st45⟩ := Own.newA (Ls := #[vr o0, vi p1]) (S := [(.ref b41), (.ref b41)]) (z := (2 : Int32)) X41 hx D42.hZ e41 .char rfl rfl (W_ hw 1 rfl) 2 rfl (by decide) (D d3_47) (by decide) (by decide)
        have le_b45 : h41.size ≤ b45 := Nat.le_of_eq g45.symm
        have X45 : Stand p l e ({ frames := 4, cells := 8, slots := 40, locals := 66 } : Room) (s.setVm s.vm) m #[(.ref o0), (.int p1)] below meth c T45 [] 2 6 := X45
        have V45 : Own.CA Z h45 b45 .char [(0 : Int32), (0 : Int32)] := V45
        have m46 : h41.size ≤ h45.size := E45.1
        have D46 := D42.ext E45
        have K47 := fun t k => K44 t (st45 t k)
        have f48 := ((A0.ext E41).ext E45)
        obtain ⟨T49, h49, L49, X49, e49, N49, K49, V49, st49⟩ := Own.cpR1 (n0 := n0) (Ls := #[vr o0, vi p1]) (S := [(.ref b41), (.ref b41)]) X45 hx D46.hZ e45 f48 V45 (Nat.ne_of_lt (Nat.lt_of_lt_of_le (A0.ext E41).lt le_b45)) (Fr.nil _) (Nat.le_trans Z0 (Nat.le_trans m42 le_b45)) own_hnx rfl 2 (Nat.le_of_ble_eq_true rfl) (Nat.le_of_ble_eq_true rfl) (by decide) (by rw [hby]; exact own_cpd1_49)
        have V49 : Own.CA Z h49 b45 .char [c0_, c1_] := V49
        have m50 : h45.size ≤ h49.size := K49.1
        have D50 := D46.keep K49 (sfS (Own.CA.safe D46.hZ.alike V45 (by decide)) sf0)
        have K51 := fun t k => K47 t (st49 t k)
        have f53 := ((A41.ext E45).keep K49)
        have f54 := ((F41_value.ext E45).keep K49 (ninS (Nat.ne_of_lt (Nat.lt_of_lt_of_le A41.lt le_b45)) nin0))
        have f55 := ((F41_coder.ext E45).keep K49 (ninS (Nat.ne_of_lt (Nat.lt_of_lt_of_le A41.lt le_b45)) nin0))
        have f56 := (Own.sta_keepG ((SC.ext E41).ext E45) K49 (allS (Own.ns_ca V45) all0))
        have hp : ∀ c ∈ ([c0_, c1_] : List Int32), ¬ c < 0 ∧ ¬ (255 : Int32) < c := by
          intro c hc; simp only [List.mem_cons, List.not_mem_nil, or_false] at hc
          rcases hc with rfl | rfl
          · exact hbc0_
          · exact hbc1_
        obtain ⟨T52, h52, J52, L52, X52, e52, n52, NN52, K52, t52, st52⟩ := own_newS (Ls := #[vr o0, vi p1]) (cs := [c0_, c1_]) (n := 2) (n0 := n0) X49 hx D50.hZ e49 hw (W_ hw 17 rfl) D50.hown rfl (Nat.le_trans Z0 (Nat.le_trans (Nat.le_refl _) le_b41)) (Nat.le_trans Z0 (Nat.le_trans (Nat.le_trans m42 m46) m50)) f53 f54 f55 V49 f56 hG1 (by decide) (by decide) hp (W_ hw 19 rfl) (W_ hw 20 rfl) (W_ hw 21 rfl) [(.ref b41)] 1 (by decide) (by decide) (by decide) (by decide) (by rw [hml]; rfl) (lenOf pd_2 rfl) (Nat.le_of_eq rfl) (D d3_61)
        have X52 : Stand p l e ({ frames := 4, cells := 8, slots := 40, locals := 66 } : Room) (s.setVm s.vm) m #[(.ref o0), (.int p1)] below meth c T52 L52 3 8 := X52
        have N52 : Fr n0 L52 := n52 n0 N49 NN52
        have m57 : h49.size ≤ h52.size := K52.1
        have D57 := D50.keep K52 (sfS (Own.safe_null D50.hZ.alike f53 f54) sf0)
        have K58 := fun t k => K51 t (st52 t k)
        have kp := (((((Keep.refl h0 []).ext E41).ext E45).trans K49 (allS (Or.inr (Nat.le_trans m42 le_b45)) all0)).trans K52 (allS (Or.inr le_b41) all0))
        have tt : own_Txt Z h52 b41 ([c0_, c1_, c2_, c3_, c4_, c5_, c6_, c7_, c8_, c9_, c10_, c11_].take p1.toNatClampNeg) := by rw [hc39]; exact t52
        exact Own.finHA X52 hx (own_hEL hw) e52 D57 (BodyLoose.notSynchronized Bd) Bd.returns rfl rfl (D d3_64) K58 (by decide) (by decide) (by rw [e52]; exact ⟨_, rfl, N52, kp, tt⟩)
      · have K59 : Own.To p e below B0 s₁ (mkF m 67 #[vr o0, vi p1] [(.int 3), (.int p1)]) := fun t k => K38 t (by
          refine Own.icmpYes X0 hx 65 (D d3_39) (feq hc39).2 (by decide) (by decide) ?_
          refine Own.iloadN X0 hx (D d3_65) rfl ?_
          refine Own.iconst X0 hx 3 (D d3_66) rfl ?_
          exact k)
        by_cases hc60 : p1 = (3 : Int32)
        · have K61 : Own.To p e below B0 s₁ (mkF m 70 #[vr o0, vi p1] []) := fun t k => K59 t (by
            refine Own.icmpNo X0 hx (D d3_67) (teq hc60).2 ?_
            exact k)
          obtain ⟨T62, h62, b62, X62, e62, E62, g62, A62, D62, st62⟩ := Own.newO (Ls := #[vr o0, vi p1]) (S := []) X0 hx D0.hZ e0 D0.hown (W_ hw 16 rfl) (W_ hw 17 rfl) (W_ hw 18 rfl) (D d3_70) (by decide) (by decide)
          have le_b62 : h0.size ≤ b62 := Nat.le_of_eq g62.symm
          have X62 : Stand p l e ({ frames := 4, cells := 8, slots := 40, locals := 66 } : Room) (s.setVm s.vm) m #[(.ref o0), (.int p1)] below meth c T62 [] 1 4 := X62
          have m63 : h0.size ≤ h62.size := E62.1
          have D63 := D0.ext E62
          have F62_value : Fld Z h62 b62 "java/lang/String" "value" "[B" .null := D62 (Or.inr (W_ hw 31 rfl)) (ty := (.array .byte)) (by decide)
          have F62_coder : Fld Z h62 b62 "java/lang/String" "coder" "B" (.int 0) := D62 (Or.inr (W_ hw 32 rfl)) (ty := .byte) (by decide)
          have K64 := fun t k => K61 t (st62 t k)
          have K65 : Own.To p e below B0 T62 (mkF m 75 #[vr o0, vi p1] [(.int 3), (.ref b62), (.ref b62)]) := fun t k => K64 t (by
            refine Own.dup X62 hx (D d3_73) rfl ?_
            refine Own.iconst X62 hx 3 (D d3_74) rfl ?_
            exact k)
          obtain ⟨T66, h66, b66, X66, e66, E66, g66, V66, st66⟩ := Own.newA (Ls := #[vr o0, vi p1]) (S := [(.ref b62), (.ref b62)]) (z := (3 : Int32)) X62 hx D63.hZ e62 .char rfl rfl (W_ hw 1 rfl) 3 rfl (by decide) (D d3_75) (by decide) (by decide)
          have le_b66 : h62.size ≤ b66 := Nat.le_of_eq g66.symm
          have X66 : Stand p l e ({ frames := 4, cells := 8, slots := 40, locals := 66 } : Room) (s.setVm s.vm) m #[(.ref o0), (.int p1)] below meth c T66 [] 2 7 := X66
          have V66 : Own.CA Z h66 b66 .char [(0 : Int32), (0 : Int32), (0 : Int32)] := V66
          have m67 : h62.size ≤ h66.size := E66.1
          have D67 := D63.ext E66
          have K68 := fun t k => K65 t (st66 t k)
          have f69 := ((A0.ext E62).ext E66)
          obtain ⟨T70, h70, L70, X70, e70, N70, K70, V70, st70⟩ := Own.cpR1 (n0 := n0) (Ls := #[vr o0, vi p1]) (S := [(.ref b62), (.ref b62)]) X66 hx D67.hZ e66 f69 V66 (Nat.ne_of_lt (Nat.lt_of_lt_of_le (A0.ext E62).lt le_b66)) (Fr.nil _) (Nat.le_trans Z0 (Nat.le_trans m63 le_b66)) own_hnx rfl 3 (Nat.le_of_ble_eq_true rfl) (Nat.le_of_ble_eq_true rfl) (by decide) (by rw [hby]; exact own_cpd1_77)
          have V70 : Own.CA Z h70 b66 .char [c0_, c1_, c2_] := V70
          have m71 : h66.size ≤ h70.size := K70.1
          have D71 := D67.keep K70 (sfS (Own.CA.safe D67.hZ.alike V66 (by decide)) sf0)
          have K72 := fun t k => K68 t (st70 t k)
          have f74 := ((A62.ext E66).keep K70)
          have f75 := ((F62_value.ext E66).keep K70 (ninS (Nat.ne_of_lt (Nat.lt_of_lt_of_le A62.lt le_b66)) nin0))
          have f76 := ((F62_coder.ext E66).keep K70 (ninS (Nat.ne_of_lt (Nat.lt_of_lt_of_le A62.lt le_b66)) nin0))
          have f77 := (Own.sta_keepG ((SC.ext E62).ext E66) K70 (allS (Own.ns_ca V66) all0))
          have hp : ∀ c ∈ ([c0_, c1_, c2_] : List Int32), ¬ c < 0 ∧ ¬ (255 : Int32) < c := by
            intro c hc; simp only [List.mem_cons, List.not_mem_nil, or_false] at hc
            rcases hc with rfl | rfl | rfl
            · exact hbc0_
            · exact hbc1_
            · exact hbc2_
          obtain ⟨T73, h73, J73, L73, X73, e73, n73, NN73, K73, t73, st73⟩ := own_newS (Ls := #[vr o0, vi p1]) (cs := [c0_, c1_, c2_]) (n := 3) (n0 := n0) X70 hx D71.hZ e70 hw (W_ hw 17 rfl) D71.hown rfl (Nat.le_trans Z0 (Nat.le_trans (Nat.le_refl _) le_b62)) (Nat.le_trans Z0 (Nat.le_trans (Nat.le_trans m63 m67) m71)) f74 f75 f76 V70 f77 hG1 (by decide) (by decide) hp (W_ hw 19 rfl) (W_ hw 20 rfl) (W_ hw 21 rfl) [(.ref b62)] 1 (by decide) (by decide) (by decide) (by decide) (by rw [hml]; rfl) (lenOf pd_2 rfl) (Nat.le_of_eq rfl) (D d3_95)
          have X73 : Stand p l e ({ frames := 4, cells := 8, slots := 40, locals := 66 } : Room) (s.setVm s.vm) m #[(.ref o0), (.int p1)] below meth c T73 L73 3 10 := X73
          have N73 : Fr n0 L73 := n73 n0 N70 NN73
          have m78 : h70.size ≤ h73.size := K73.1
          have D78 := D71.keep K73 (sfS (Own.safe_null D71.hZ.alike f74 f75) sf0)
          have K79 := fun t k => K72 t (st73 t k)
          have kp := (((((Keep.refl h0 []).ext E62).ext E66).trans K70 (allS (Or.inr (Nat.le_trans m63 le_b66)) all0)).trans K73 (allS (Or.inr le_b62) all0))
          have tt : own_Txt Z h73 b62 ([c0_, c1_, c2_, c3_, c4_, c5_, c6_, c7_, c8_, c9_, c10_, c11_].take p1.toNatClampNeg) := by rw [hc60]; exact t73
          exact Own.finHA X73 hx (own_hEL hw) e73 D78 (BodyLoose.notSynchronized Bd) Bd.returns rfl rfl (D d3_98) K79 (by decide) (by decide) (by rw [e73]; exact ⟨_, rfl, N73, kp, tt⟩)
        · have K80 : Own.To p e below B0 s₁ (mkF m 101 #[vr o0, vi p1] [(.int 4), (.int p1)]) := fun t k => K59 t (by
            refine Own.icmpYes X0 hx 99 (D d3_67) (feq hc60).2 (by decide) (by decide) ?_
            refine Own.iloadN X0 hx (D d3_99) rfl ?_
            refine Own.iconst X0 hx 4 (D d3_100) rfl ?_
            exact k)
          by_cases hc81 : p1 = (4 : Int32)
          · have K82 : Own.To p e below B0 s₁ (mkF m 104 #[vr o0, vi p1] []) := fun t k => K80 t (by
              refine Own.icmpNo X0 hx (D d3_101) (teq hc81).2 ?_
              exact k)
            obtain ⟨T83, h83, b83, X83, e83, E83, g83, A83, D83, st83⟩ := Own.newO (Ls := #[vr o0, vi p1]) (S := []) X0 hx D0.hZ e0 D0.hown (W_ hw 16 rfl) (W_ hw 17 rfl) (W_ hw 18 rfl) (D d3_104) (by decide) (by decide)
            have le_b83 : h0.size ≤ b83 := Nat.le_of_eq g83.symm
            have X83 : Stand p l e ({ frames := 4, cells := 8, slots := 40, locals := 66 } : Room) (s.setVm s.vm) m #[(.ref o0), (.int p1)] below meth c T83 [] 1 4 := X83
            have m84 : h0.size ≤ h83.size := E83.1
            have D84 := D0.ext E83
            have F83_value : Fld Z h83 b83 "java/lang/String" "value" "[B" .null := D83 (Or.inr (W_ hw 31 rfl)) (ty := (.array .byte)) (by decide)
            have F83_coder : Fld Z h83 b83 "java/lang/String" "coder" "B" (.int 0) := D83 (Or.inr (W_ hw 32 rfl)) (ty := .byte) (by decide)
            have K85 := fun t k => K82 t (st83 t k)
            have K86 : Own.To p e below B0 T83 (mkF m 109 #[vr o0, vi p1] [(.int 4), (.ref b83), (.ref b83)]) := fun t k => K85 t (by
              refine Own.dup X83 hx (D d3_107) rfl ?_
              refine Own.iconst X83 hx 4 (D d3_108) rfl ?_
              exact k)
            obtain ⟨T87, h87, b87, X87, e87, E87, g87, V87, st87⟩ := Own.newA (Ls := #[vr o0, vi p1]) (S := [(.ref b83), (.ref b83)]) (z := (4 : Int32)) X83 hx D84.hZ e83 .char rfl rfl (W_ hw 1 rfl) 4 rfl (by decide) (D d3_109) (by decide) (by decide)
            have le_b87 : h83.size ≤ b87 := Nat.le_of_eq g87.symm
            have X87 : Stand p l e ({ frames := 4, cells := 8, slots := 40, locals := 66 } : Room) (s.setVm s.vm) m #[(.ref o0), (.int p1)] below meth c T87 [] 2 8 := X87
            have V87 : Own.CA Z h87 b87 .char [(0 : Int32), (0 : Int32), (0 : Int32), (0 : Int32)] := V87
            have m88 : h83.size ≤ h87.size := E87.1
            have D88 := D84.ext E87
            have K89 := fun t k => K86 t (st87 t k)
            have f90 := ((A0.ext E83).ext E87)
            obtain ⟨T91, h91, L91, X91, e91, N91, K91, V91, st91⟩ := Own.cpR1 (n0 := n0) (Ls := #[vr o0, vi p1]) (S := [(.ref b83), (.ref b83)]) X87 hx D88.hZ e87 f90 V87 (Nat.ne_of_lt (Nat.lt_of_lt_of_le (A0.ext E83).lt le_b87)) (Fr.nil _) (Nat.le_trans Z0 (Nat.le_trans m84 le_b87)) own_hnx rfl 4 (Nat.le_of_ble_eq_true rfl) (Nat.le_of_ble_eq_true rfl) (by decide) (by rw [hby]; exact own_cpd1_111)
            have V91 : Own.CA Z h91 b87 .char [c0_, c1_, c2_, c3_] := V91
            have m92 : h87.size ≤ h91.size := K91.1
            have D92 := D88.keep K91 (sfS (Own.CA.safe D88.hZ.alike V87 (by decide)) sf0)
            have K93 := fun t k => K89 t (st91 t k)
            have f95 := ((A83.ext E87).keep K91)
            have f96 := ((F83_value.ext E87).keep K91 (ninS (Nat.ne_of_lt (Nat.lt_of_lt_of_le A83.lt le_b87)) nin0))
            have f97 := ((F83_coder.ext E87).keep K91 (ninS (Nat.ne_of_lt (Nat.lt_of_lt_of_le A83.lt le_b87)) nin0))
            have f98 := (Own.sta_keepG ((SC.ext E83).ext E87) K91 (allS (Own.ns_ca V87) all0))
            have hp : ∀ c ∈ ([c0_, c1_, c2_, c3_] : List Int32), ¬ c < 0 ∧ ¬ (255 : Int32) < c := by
              intro c hc; simp only [List.mem_cons, List.not_mem_nil, or_false] at hc
              rcases hc with rfl | rfl | rfl | rfl
              · exact hbc0_
              · exact hbc1_
              · exact hbc2_
              · exact hbc3_
            obtain ⟨T94, h94, J94, L94, X94, e94, n94, NN94, K94, t94, st94⟩ := own_newS (Ls := #[vr o0, vi p1]) (cs := [c0_, c1_, c2_, c3_]) (n := 4) (n0 := n0) X91 hx D92.hZ e91 hw (W_ hw 17 rfl) D92.hown rfl (Nat.le_trans Z0 (Nat.le_trans (Nat.le_refl _) le_b83)) (Nat.le_trans Z0 (Nat.le_trans (Nat.le_trans m84 m88) m92)) f95 f96 f97 V91 f98 hG1 (by decide) (by decide) hp (W_ hw 19 rfl) (W_ hw 20 rfl) (W_ hw 21 rfl) [(.ref b83)] 1 (by decide) (by decide) (by decide) (by decide) (by rw [hml]; rfl) (lenOf pd_2 rfl) (Nat.le_of_eq rfl) (D d3_135)
            have X94 : Stand p l e ({ frames := 4, cells := 8, slots := 40, locals := 66 } : Room) (s.setVm s.vm) m #[(.ref o0), (.int p1)] below meth c T94 L94 3 12 := X94
            have N94 : Fr n0 L94 := n94 n0 N91 NN94
            have m99 : h91.size ≤ h94.size := K94.1
            have D99 := D92.keep K94 (sfS (Own.safe_null D92.hZ.alike f95 f96) sf0)
            have K100 := fun t k => K93 t (st94 t k)
            have kp := (((((Keep.refl h0 []).ext E83).ext E87).trans K91 (allS (Or.inr (Nat.le_trans m84 le_b87)) all0)).trans K94 (allS (Or.inr le_b83) all0))
            have tt : own_Txt Z h94 b83 ([c0_, c1_, c2_, c3_, c4_, c5_, c6_, c7_, c8_, c9_, c10_, c11_].take p1.toNatClampNeg) := by rw [hc81]; exact t94
            exact Own.finHA X94 hx (own_hEL hw) e94 D99 (BodyLoose.notSynchronized Bd) Bd.returns rfl rfl (D d3_138) K100 (by decide) (by decide) (by rw [e94]; exact ⟨_, rfl, N94, kp, tt⟩)
          · have K101 : Own.To p e below B0 s₁ (mkF m 141 #[vr o0, vi p1] [(.int 5), (.int p1)]) := fun t k => K80 t (by
              refine Own.icmpYes X0 hx 139 (D d3_101) (feq hc81).2 (by decide) (by decide) ?_
              refine Own.iloadN X0 hx (D d3_139) rfl ?_
              refine Own.iconst X0 hx 5 (D d3_140) rfl ?_
              exact k)
            by_cases hc102 : p1 = (5 : Int32)
            · have K103 : Own.To p e below B0 s₁ (mkF m 144 #[vr o0, vi p1] []) := fun t k => K101 t (by
                refine Own.icmpNo X0 hx (D d3_141) (teq hc102).2 ?_
                exact k)
              obtain ⟨T104, h104, b104, X104, e104, E104, g104, A104, D104, st104⟩ := Own.newO (Ls := #[vr o0, vi p1]) (S := []) X0 hx D0.hZ e0 D0.hown (W_ hw 16 rfl) (W_ hw 17 rfl) (W_ hw 18 rfl) (D d3_144) (by decide) (by decide)
              have le_b104 : h0.size ≤ b104 := Nat.le_of_eq g104.symm
              have X104 : Stand p l e ({ frames := 4, cells := 8, slots := 40, locals := 66 } : Room) (s.setVm s.vm) m #[(.ref o0), (.int p1)] below meth c T104 [] 1 4 := X104
              have m105 : h0.size ≤ h104.size := E104.1
              have D105 := D0.ext E104
              have F104_value : Fld Z h104 b104 "java/lang/String" "value" "[B" .null := D104 (Or.inr (W_ hw 31 rfl)) (ty := (.array .byte)) (by decide)
              have F104_coder : Fld Z h104 b104 "java/lang/String" "coder" "B" (.int 0) := D104 (Or.inr (W_ hw 32 rfl)) (ty := .byte) (by decide)
              have K106 := fun t k => K103 t (st104 t k)
              have K107 : Own.To p e below B0 T104 (mkF m 149 #[vr o0, vi p1] [(.int 5), (.ref b104), (.ref b104)]) := fun t k => K106 t (by
                refine Own.dup X104 hx (D d3_147) rfl ?_
                refine Own.iconst X104 hx 5 (D d3_148) rfl ?_
                exact k)
              obtain ⟨T108, h108, b108, X108, e108, E108, g108, V108, st108⟩ := Own.newA (Ls := #[vr o0, vi p1]) (S := [(.ref b104), (.ref b104)]) (z := (5 : Int32)) X104 hx D105.hZ e104 .char rfl rfl (W_ hw 1 rfl) 5 rfl (by decide) (D d3_149) (by decide) (by decide)
              have le_b108 : h104.size ≤ b108 := Nat.le_of_eq g108.symm
              have X108 : Stand p l e ({ frames := 4, cells := 8, slots := 40, locals := 66 } : Room) (s.setVm s.vm) m #[(.ref o0), (.int p1)] below meth c T108 [] 2 9 := X108
              have V108 : Own.CA Z h108 b108 .char [(0 : Int32), (0 : Int32), (0 : Int32), (0 : Int32), (0 : Int32)] := V108
              have m109 : h104.size ≤ h108.size := E108.1
              have D109 := D105.ext E108
              have K110 := fun t k => K107 t (st108 t k)
              have f111 := ((A0.ext E104).ext E108)
              obtain ⟨T112, h112, L112, X112, e112, N112, K112, V112, st112⟩ := Own.cpR1 (n0 := n0) (Ls := #[vr o0, vi p1]) (S := [(.ref b104), (.ref b104)]) X108 hx D109.hZ e108 f111 V108 (Nat.ne_of_lt (Nat.lt_of_lt_of_le (A0.ext E104).lt le_b108)) (Fr.nil _) (Nat.le_trans Z0 (Nat.le_trans m105 le_b108)) own_hnx rfl 5 (Nat.le_of_ble_eq_true rfl) (Nat.le_of_ble_eq_true rfl) (by decide) (by rw [hby]; exact own_cpd1_151)
              have V112 : Own.CA Z h112 b108 .char [c0_, c1_, c2_, c3_, c4_] := V112
              have m113 : h108.size ≤ h112.size := K112.1
              have D113 := D109.keep K112 (sfS (Own.CA.safe D109.hZ.alike V108 (by decide)) sf0)
              have K114 := fun t k => K110 t (st112 t k)
              have f116 := ((A104.ext E108).keep K112)
              have f117 := ((F104_value.ext E108).keep K112 (ninS (Nat.ne_of_lt (Nat.lt_of_lt_of_le A104.lt le_b108)) nin0))
              have f118 := ((F104_coder.ext E108).keep K112 (ninS (Nat.ne_of_lt (Nat.lt_of_lt_of_le A104.lt le_b108)) nin0))
              have f119 := (Own.sta_keepG ((SC.ext E104).ext E108) K112 (allS (Own.ns_ca V108) all0))
              have hp : ∀ c ∈ ([c0_, c1_, c2_, c3_, c4_] : List Int32), ¬ c < 0 ∧ ¬ (255 : Int32) < c := by
                intro c hc; simp only [List.mem_cons, List.not_mem_nil, or_false] at hc
                rcases hc with rfl | rfl | rfl | rfl | rfl
                · exact hbc0_
                · exact hbc1_
                · exact hbc2_
                · exact hbc3_
                · exact hbc4_
              obtain ⟨T115, h115, J115, L115, X115, e115, n115, NN115, K115, t115, st115⟩ := own_newS (Ls := #[vr o0, vi p1]) (cs := [c0_, c1_, c2_, c3_, c4_]) (n := 5) (n0 := n0) X112 hx D113.hZ e112 hw (W_ hw 17 rfl) D113.hown rfl (Nat.le_trans Z0 (Nat.le_trans (Nat.le_refl _) le_b104)) (Nat.le_trans Z0 (Nat.le_trans (Nat.le_trans m105 m109) m113)) f116 f117 f118 V112 f119 hG1 (by decide) (by decide) hp (W_ hw 19 rfl) (W_ hw 20 rfl) (W_ hw 21 rfl) [(.ref b104)] 1 (by decide) (by decide) (by decide) (by decide) (by rw [hml]; rfl) (lenOf pd_2 rfl) (Nat.le_of_eq rfl) (D d3_181)
              have X115 : Stand p l e ({ frames := 4, cells := 8, slots := 40, locals := 66 } : Room) (s.setVm s.vm) m #[(.ref o0), (.int p1)] below meth c T115 L115 3 14 := X115
              have N115 : Fr n0 L115 := n115 n0 N112 NN115
              have m120 : h112.size ≤ h115.size := K115.1
              have D120 := D113.keep K115 (sfS (Own.safe_null D113.hZ.alike f116 f117) sf0)
              have K121 := fun t k => K114 t (st115 t k)
              have kp := (((((Keep.refl h0 []).ext E104).ext E108).trans K112 (allS (Or.inr (Nat.le_trans m105 le_b108)) all0)).trans K115 (allS (Or.inr le_b104) all0))
              have tt : own_Txt Z h115 b104 ([c0_, c1_, c2_, c3_, c4_, c5_, c6_, c7_, c8_, c9_, c10_, c11_].take p1.toNatClampNeg) := by rw [hc102]; exact t115
              exact Own.finHA X115 hx (own_hEL hw) e115 D120 (BodyLoose.notSynchronized Bd) Bd.returns rfl rfl (D d3_184) K121 (by decide) (by decide) (by rw [e115]; exact ⟨_, rfl, N115, kp, tt⟩)
            · have K122 : Own.To p e below B0 s₁ (mkF m 188 #[vr o0, vi p1] [(.int 6), (.int p1)]) := fun t k => K101 t (by
                refine Own.icmpYes X0 hx 185 (D d3_141) (feq hc102).2 (by decide) (by decide) ?_
                refine Own.iloadN X0 hx (D d3_185) rfl ?_
                refine Own.bipush X0 hx 6 (D d3_186) rfl ?_
                exact k)
              by_cases hc123 : p1 = (6 : Int32)
              · have K124 : Own.To p e below B0 s₁ (mkF m 191 #[vr o0, vi p1] []) := fun t k => K122 t (by
                  refine Own.icmpNo X0 hx (D d3_188) (teq hc123).2 ?_
                  exact k)
                obtain ⟨T125, h125, b125, X125, e125, E125, g125, A125, D125, st125⟩ := Own.newO (Ls := #[vr o0, vi p1]) (S := []) X0 hx D0.hZ e0 D0.hown (W_ hw 16 rfl) (W_ hw 17 rfl) (W_ hw 18 rfl) (D d3_191) (by decide) (by decide)
                have le_b125 : h0.size ≤ b125 := Nat.le_of_eq g125.symm
                have X125 : Stand p l e ({ frames := 4, cells := 8, slots := 40, locals := 66 } : Room) (s.setVm s.vm) m #[(.ref o0), (.int p1)] below meth c T125 [] 1 4 := X125
                have m126 : h0.size ≤ h125.size := E125.1
                have D126 := D0.ext E125
                have F125_value : Fld Z h125 b125 "java/lang/String" "value" "[B" .null := D125 (Or.inr (W_ hw 31 rfl)) (ty := (.array .byte)) (by decide)
                have F125_coder : Fld Z h125 b125 "java/lang/String" "coder" "B" (.int 0) := D125 (Or.inr (W_ hw 32 rfl)) (ty := .byte) (by decide)
                have K127 := fun t k => K124 t (st125 t k)
                have K128 : Own.To p e below B0 T125 (mkF m 197 #[vr o0, vi p1] [(.int 6), (.ref b125), (.ref b125)]) := fun t k => K127 t (by
                  refine Own.dup X125 hx (D d3_194) rfl ?_
                  refine Own.bipush X125 hx 6 (D d3_195) rfl ?_
                  exact k)
                obtain ⟨T129, h129, b129, X129, e129, E129, g129, V129, st129⟩ := Own.newA (Ls := #[vr o0, vi p1]) (S := [(.ref b125), (.ref b125)]) (z := (6 : Int32)) X125 hx D126.hZ e125 .char rfl rfl (W_ hw 1 rfl) 6 rfl (by decide) (D d3_197) (by decide) (by decide)
                have le_b129 : h125.size ≤ b129 := Nat.le_of_eq g129.symm
                have X129 : Stand p l e ({ frames := 4, cells := 8, slots := 40, locals := 66 } : Room) (s.setVm s.vm) m #[(.ref o0), (.int p1)] below meth c T129 [] 2 10 := X129
                have V129 : Own.CA Z h129 b129 .char [(0 : Int32), (0 : Int32), (0 : Int32), (0 : Int32), (0 : Int32), (0 : Int32)] := V129
                have m130 : h125.size ≤ h129.size := E129.1
                have D130 := D126.ext E129
                have K131 := fun t k => K128 t (st129 t k)
                have f132 := ((A0.ext E125).ext E129)
                obtain ⟨T133, h133, L133, X133, e133, N133, K133, V133, st133⟩ := Own.cpR1 (n0 := n0) (Ls := #[vr o0, vi p1]) (S := [(.ref b125), (.ref b125)]) X129 hx D130.hZ e129 f132 V129 (Nat.ne_of_lt (Nat.lt_of_lt_of_le (A0.ext E125).lt le_b129)) (Fr.nil _) (Nat.le_trans Z0 (Nat.le_trans m126 le_b129)) own_hnx rfl 6 (Nat.le_of_ble_eq_true rfl) (Nat.le_of_ble_eq_true rfl) (by decide) (by rw [hby]; exact own_cpd1_199)
                have V133 : Own.CA Z h133 b129 .char [c0_, c1_, c2_, c3_, c4_, c5_] := V133
                have m134 : h129.size ≤ h133.size := K133.1
                have D134 := D130.keep K133 (sfS (Own.CA.safe D130.hZ.alike V129 (by decide)) sf0)
                have K135 := fun t k => K131 t (st133 t k)
                have f137 := ((A125.ext E129).keep K133)
                have f138 := ((F125_value.ext E129).keep K133 (ninS (Nat.ne_of_lt (Nat.lt_of_lt_of_le A125.lt le_b129)) nin0))
                have f139 := ((F125_coder.ext E129).keep K133 (ninS (Nat.ne_of_lt (Nat.lt_of_lt_of_le A125.lt le_b129)) nin0))
                have f140 := (Own.sta_keepG ((SC.ext E125).ext E129) K133 (allS (Own.ns_ca V129) all0))
                have hp : ∀ c ∈ ([c0_, c1_, c2_, c3_, c4_, c5_] : List Int32), ¬ c < 0 ∧ ¬ (255 : Int32) < c := by
                  intro c hc; simp only [List.mem_cons, List.not_mem_nil, or_false] at hc
                  rcases hc with rfl | rfl | rfl | rfl | rfl | rfl
                  · exact hbc0_
                  · exact hbc1_
                  · exact hbc2_
                  · exact hbc3_
                  · exact hbc4_
                  · exact hbc5_
                obtain ⟨T136, h136, J136, L136, X136, e136, n136, NN136, K136, t136, st136⟩ := own_newS (Ls := #[vr o0, vi p1]) (cs := [c0_, c1_, c2_, c3_, c4_, c5_]) (n := 6) (n0 := n0) X133 hx D134.hZ e133 hw (W_ hw 17 rfl) D134.hown rfl (Nat.le_trans Z0 (Nat.le_trans (Nat.le_refl _) le_b125)) (Nat.le_trans Z0 (Nat.le_trans (Nat.le_trans m126 m130) m134)) f137 f138 f139 V133 f140 hG1 (by decide) (by decide) hp (W_ hw 19 rfl) (W_ hw 20 rfl) (W_ hw 21 rfl) [(.ref b125)] 1 (by decide) (by decide) (by decide) (by decide) (by rw [hml]; rfl) (lenOf pd_2 rfl) (Nat.le_of_eq rfl) (D d3_235)
                have X136 : Stand p l e ({ frames := 4, cells := 8, slots := 40, locals := 66 } : Room) (s.setVm s.vm) m #[(.ref o0), (.int p1)] below meth c T136 L136 3 16 := X136
                have N136 : Fr n0 L136 := n136 n0 N133 NN136
                have m141 : h133.size ≤ h136.size := K136.1
                have D141 := D134.keep K136 (sfS (Own.safe_null D134.hZ.alike f137 f138) sf0)
                have K142 := fun t k => K135 t (st136 t k)
                have kp := (((((Keep.refl h0 []).ext E125).ext E129).trans K133 (allS (Or.inr (Nat.le_trans m126 le_b129)) all0)).trans K136 (allS (Or.inr le_b125) all0))
                have tt : own_Txt Z h136 b125 ([c0_, c1_, c2_, c3_, c4_, c5_, c6_, c7_, c8_, c9_, c10_, c11_].take p1.toNatClampNeg) := by rw [hc123]; exact t136
                exact Own.finHA X136 hx (own_hEL hw) e136 D141 (BodyLoose.notSynchronized Bd) Bd.returns rfl rfl (D d3_238) K142 (by decide) (by decide) (by rw [e136]; exact ⟨_, rfl, N136, kp, tt⟩)
              · have K143 : Own.To p e below B0 s₁ (mkF m 242 #[vr o0, vi p1] [(.int 7), (.int p1)]) := fun t k => K122 t (by
                  refine Own.icmpYes X0 hx 239 (D d3_188) (feq hc123).2 (by decide) (by decide) ?_
                  refine Own.iloadN X0 hx (D d3_239) rfl ?_
                  refine Own.bipush X0 hx 7 (D d3_240) rfl ?_
                  exact k)
                by_cases hc144 : p1 = (7 : Int32)
                · have K145 : Own.To p e below B0 s₁ (mkF m 245 #[vr o0, vi p1] []) := fun t k => K143 t (by
                    refine Own.icmpNo X0 hx (D d3_242) (teq hc144).2 ?_
                    exact k)
                  obtain ⟨T146, h146, b146, X146, e146, E146, g146, A146, D146, st146⟩ := Own.newO (Ls := #[vr o0, vi p1]) (S := []) X0 hx D0.hZ e0 D0.hown (W_ hw 16 rfl) (W_ hw 17 rfl) (W_ hw 18 rfl) (D d3_245) (by decide) (by decide)
                  have le_b146 : h0.size ≤ b146 := Nat.le_of_eq g146.symm
                  have X146 : Stand p l e ({ frames := 4, cells := 8, slots := 40, locals := 66 } : Room) (s.setVm s.vm) m #[(.ref o0), (.int p1)] below meth c T146 [] 1 4 := X146
                  have m147 : h0.size ≤ h146.size := E146.1
                  have D147 := D0.ext E146
                  have F146_value : Fld Z h146 b146 "java/lang/String" "value" "[B" .null := D146 (Or.inr (W_ hw 31 rfl)) (ty := (.array .byte)) (by decide)
                  have F146_coder : Fld Z h146 b146 "java/lang/String" "coder" "B" (.int 0) := D146 (Or.inr (W_ hw 32 rfl)) (ty := .byte) (by decide)
                  have K148 := fun t k => K145 t (st146 t k)
                  have K149 : Own.To p e below B0 T146 (mkF m 251 #[vr o0, vi p1] [(.int 7), (.ref b146), (.ref b146)]) := fun t k => K148 t (by
                    refine Own.dup X146 hx (D d3_248) rfl ?_
                    refine Own.bipush X146 hx 7 (D d3_249) rfl ?_
                    exact k)
                  obtain ⟨T150, h150, b150, X150, e150, E150, g150, V150, st150⟩ := Own.newA (Ls := #[vr o0, vi p1]) (S := [(.ref b146), (.ref b146)]) (z := (7 : Int32)) X146 hx D147.hZ e146 .char rfl rfl (W_ hw 1 rfl) 7 rfl (by decide) (D d3_251) (by decide) (by decide)
                  have le_b150 : h146.size ≤ b150 := Nat.le_of_eq g150.symm
                  have X150 : Stand p l e ({ frames := 4, cells := 8, slots := 40, locals := 66 } : Room) (s.setVm s.vm) m #[(.ref o0), (.int p1)] below meth c T150 [] 2 11 := X150
                  have V150 : Own.CA Z h150 b150 .char [(0 : Int32), (0 : Int32), (0 : Int32), (0 : Int32), (0 : Int32), (0 : Int32), (0 : Int32)] := V150
                  have m151 : h146.size ≤ h150.size := E150.1
                  have D151 := D147.ext E150
                  have K152 := fun t k => K149 t (st150 t k)
                  have f153 := ((A0.ext E146).ext E150)
                  obtain ⟨T154, h154, L154, X154, e154, N154, K154, V154, st154⟩ := Own.cpR1 (n0 := n0) (Ls := #[vr o0, vi p1]) (S := [(.ref b146), (.ref b146)]) X150 hx D151.hZ e150 f153 V150 (Nat.ne_of_lt (Nat.lt_of_lt_of_le (A0.ext E146).lt le_b150)) (Fr.nil _) (Nat.le_trans Z0 (Nat.le_trans m147 le_b150)) own_hnx rfl 6 (Nat.le_of_ble_eq_true rfl) (Nat.le_of_ble_eq_true rfl) (by decide) (by rw [hby]; exact own_cpd1_253)
                  have V154 : Own.CA Z h154 b150 .char [c0_, c1_, c2_, c3_, c4_, c5_, (0 : Int32)] := V154
                  have m155 : h150.size ≤ h154.size := K154.1
                  have D155 := D151.keep K154 (sfS (Own.CA.safe D151.hZ.alike V150 (by decide)) sf0)
                  have K156 := fun t k => K152 t (st154 t k)
                  have f158 := (f153.keep K154 (ninS (Nat.ne_of_lt (Nat.lt_of_lt_of_le (A0.ext E146).lt le_b150)) nin0))
                  obtain ⟨T157, h157, L157, X157, e157, N157, K157, V157, st157⟩ := Own.cpR2 (n0 := n0) (Ls := #[vr o0, vi p1]) (S := [(.ref b146), (.ref b146)]) X154 hx D155.hZ e154 f158 V154 (Nat.ne_of_lt (Nat.lt_of_lt_of_le (A0.ext E146).lt le_b150)) N154 (Nat.le_trans Z0 (Nat.le_trans m147 le_b150)) own_hnx rfl 1 (Nat.le_of_ble_eq_true rfl) (Nat.le_of_ble_eq_true rfl) (by decide) (by rw [hby]; exact own_cpd2_289)
                  have V157 : Own.CA Z h157 b150 .char [c0_, c1_, c2_, c3_, c4_, c5_, c6_] := V157
                  have m159 : h154.size ≤ h157.size := K157.1
                  have D159 := D155.keep K157 (sfS (Own.CA.safe D155.hZ.alike V154 (by decide)) sf0)
                  have K160 := fun t k => K156 t (st157 t k)
                  have f162 := (((A146.ext E150).keep K154).keep K157)
                  have f163 := (((F146_value.ext E150).keep K154 (ninS (Nat.ne_of_lt (Nat.lt_of_lt_of_le A146.lt le_b150)) nin0)).keep K157 (ninS (Nat.ne_of_lt (Nat.lt_of_lt_of_le A146.lt le_b150)) nin0))
                  have f164 := (((F146_coder.ext E150).keep K154 (ninS (Nat.ne_of_lt (Nat.lt_of_lt_of_le A146.lt le_b150)) nin0)).keep K157 (ninS (Nat.ne_of_lt (Nat.lt_of_lt_of_le A146.lt le_b150)) nin0))
                  have f165 := (Own.sta_keepG (Own.sta_keepG ((SC.ext E146).ext E150) K154 (allS (Own.ns_ca V150) all0)) K157 (allS (Own.ns_ca V154) all0))
                  have hp : ∀ c ∈ ([c0_, c1_, c2_, c3_, c4_, c5_, c6_] : List Int32), ¬ c < 0 ∧ ¬ (255 : Int32) < c := by
                    intro c hc; simp only [List.mem_cons, List.not_mem_nil, or_false] at hc
                    rcases hc with rfl | rfl | rfl | rfl | rfl | rfl | rfl
                    · exact hbc0_
                    · exact hbc1_
                    · exact hbc2_
                    · exact hbc3_
                    · exact hbc4_
                    · exact hbc5_
                    · exact hbc6_
                  obtain ⟨T161, h161, J161, L161, X161, e161, n161, NN161, K161, t161, st161⟩ := own_newS (Ls := #[vr o0, vi p1]) (cs := [c0_, c1_, c2_, c3_, c4_, c5_, c6_]) (n := 7) (n0 := n0) X157 hx D159.hZ e157 hw (W_ hw 17 rfl) D159.hown rfl (Nat.le_trans Z0 (Nat.le_trans (Nat.le_refl _) le_b146)) (Nat.le_trans Z0 (Nat.le_trans (Nat.le_trans (Nat.le_trans m147 m151) m155) m159)) f162 f163 f164 V157 f165 hG1 (by decide) (by decide) hp (W_ hw 19 rfl) (W_ hw 20 rfl) (W_ hw 21 rfl) [(.ref b146)] 1 (by decide) (by decide) (by decide) (by decide) (by rw [hml]; rfl) (lenOf pd_2 rfl) (Nat.le_of_eq rfl) (D d3_297)
                  have X161 : Stand p l e ({ frames := 4, cells := 8, slots := 40, locals := 66 } : Room) (s.setVm s.vm) m #[(.ref o0), (.int p1)] below meth c T161 L161 3 18 := X161
                  have N161 : Fr n0 L161 := n161 n0 N157 NN161
                  have m166 : h157.size ≤ h161.size := K161.1
                  have D166 := D159.keep K161 (sfS (Own.safe_null D159.hZ.alike f162 f163) sf0)
                  have K167 := fun t k => K160 t (st161 t k)
                  have kp := ((((((Keep.refl h0 []).ext E146).ext E150).trans K154 (allS (Or.inr (Nat.le_trans m147 le_b150)) all0)).trans K157 (allS (Or.inr (Nat.le_trans m147 le_b150)) all0)).trans K161 (allS (Or.inr le_b146) all0))
                  have tt : own_Txt Z h161 b146 ([c0_, c1_, c2_, c3_, c4_, c5_, c6_, c7_, c8_, c9_, c10_, c11_].take p1.toNatClampNeg) := by rw [hc144]; exact t161
                  exact Own.finHA X161 hx (own_hEL hw) e161 D166 (BodyLoose.notSynchronized Bd) Bd.returns rfl rfl (D d3_300) K167 (by decide) (by decide) (by rw [e161]; exact ⟨_, rfl, N161, kp, tt⟩)
                · have K168 : Own.To p e below B0 s₁ (mkF m 304 #[vr o0, vi p1] [(.int 8), (.int p1)]) := fun t k => K143 t (by
                    refine Own.icmpYes X0 hx 301 (D d3_242) (feq hc144).2 (by decide) (by decide) ?_
                    refine Own.iloadN X0 hx (D d3_301) rfl ?_
                    refine Own.bipush X0 hx 8 (D d3_302) rfl ?_
                    exact k)
                  by_cases hc169 : p1 = (8 : Int32)
                  · have K170 : Own.To p e below B0 s₁ (mkF m 307 #[vr o0, vi p1] []) := fun t k => K168 t (by
                      refine Own.icmpNo X0 hx (D d3_304) (teq hc169).2 ?_
                      exact k)
                    obtain ⟨T171, h171, b171, X171, e171, E171, g171, A171, D171, st171⟩ := Own.newO (Ls := #[vr o0, vi p1]) (S := []) X0 hx D0.hZ e0 D0.hown (W_ hw 16 rfl) (W_ hw 17 rfl) (W_ hw 18 rfl) (D d3_307) (by decide) (by decide)
                    have le_b171 : h0.size ≤ b171 := Nat.le_of_eq g171.symm
                    have X171 : Stand p l e ({ frames := 4, cells := 8, slots := 40, locals := 66 } : Room) (s.setVm s.vm) m #[(.ref o0), (.int p1)] below meth c T171 [] 1 4 := X171
                    have m172 : h0.size ≤ h171.size := E171.1
                    have D172 := D0.ext E171
                    have F171_value : Fld Z h171 b171 "java/lang/String" "value" "[B" .null := D171 (Or.inr (W_ hw 31 rfl)) (ty := (.array .byte)) (by decide)
                    have F171_coder : Fld Z h171 b171 "java/lang/String" "coder" "B" (.int 0) := D171 (Or.inr (W_ hw 32 rfl)) (ty := .byte) (by decide)
                    have K173 := fun t k => K170 t (st171 t k)
                    have K174 : Own.To p e below B0 T171 (mkF m 313 #[vr o0, vi p1] [(.int 8), (.ref b171), (.ref b171)]) := fun t k => K173 t (by
                      refine Own.dup X171 hx (D d3_310) rfl ?_
                      refine Own.bipush X171 hx 8 (D d3_311) rfl ?_
                      exact k)
                    obtain ⟨T175, h175, b175, X175, e175, E175, g175, V175, st175⟩ := Own.newA (Ls := #[vr o0, vi p1]) (S := [(.ref b171), (.ref b171)]) (z := (8 : Int32)) X171 hx D172.hZ e171 .char rfl rfl (W_ hw 1 rfl) 8 rfl (by decide) (D d3_313) (by decide) (by decide)
                    have le_b175 : h171.size ≤ b175 := Nat.le_of_eq g175.symm
                    have X175 : Stand p l e ({ frames := 4, cells := 8, slots := 40, locals := 66 } : Room) (s.setVm s.vm) m #[(.ref o0), (.int p1)] below meth c T175 [] 2 12 := X175
                    have V175 : Own.CA Z h175 b175 .char [(0 : Int32), (0 : Int32), (0 : Int32), (0 : Int32), (0 : Int32), (0 : Int32), (0 : Int32), (0 : Int32)] := V175
                    have m176 : h171.size ≤ h175.size := E175.1
                    have D176 := D172.ext E175
                    have K177 := fun t k => K174 t (st175 t k)
                    have f178 := ((A0.ext E171).ext E175)
                    obtain ⟨T179, h179, L179, X179, e179, N179, K179, V179, st179⟩ := Own.cpR1 (n0 := n0) (Ls := #[vr o0, vi p1]) (S := [(.ref b171), (.ref b171)]) X175 hx D176.hZ e175 f178 V175 (Nat.ne_of_lt (Nat.lt_of_lt_of_le (A0.ext E171).lt le_b175)) (Fr.nil _) (Nat.le_trans Z0 (Nat.le_trans m172 le_b175)) own_hnx rfl 6 (Nat.le_of_ble_eq_true rfl) (Nat.le_of_ble_eq_true rfl) (by decide) (by rw [hby]; exact own_cpd1_315)
                    have V179 : Own.CA Z h179 b175 .char [c0_, c1_, c2_, c3_, c4_, c5_, (0 : Int32), (0 : Int32)] := V179
                    have m180 : h175.size ≤ h179.size := K179.1
                    have D180 := D176.keep K179 (sfS (Own.CA.safe D176.hZ.alike V175 (by decide)) sf0)
                    have K181 := fun t k => K177 t (st179 t k)
                    have f183 := (f178.keep K179 (ninS (Nat.ne_of_lt (Nat.lt_of_lt_of_le (A0.ext E171).lt le_b175)) nin0))
                    obtain ⟨T182, h182, L182, X182, e182, N182, K182, V182, st182⟩ := Own.cpR2 (n0 := n0) (Ls := #[vr o0, vi p1]) (S := [(.ref b171), (.ref b171)]) X179 hx D180.hZ e179 f183 V179 (Nat.ne_of_lt (Nat.lt_of_lt_of_le (A0.ext E171).lt le_b175)) N179 (Nat.le_trans Z0 (Nat.le_trans m172 le_b175)) own_hnx rfl 2 (Nat.le_of_ble_eq_true rfl) (Nat.le_of_ble_eq_true rfl) (by decide) (by rw [hby]; exact own_cpd2_351)
                    have V182 : Own.CA Z h182 b175 .char [c0_, c1_, c2_, c3_, c4_, c5_, c6_, c7_] := V182
                    have m184 : h179.size ≤ h182.size := K182.1
                    have D184 := D180.keep K182 (sfS (Own.CA.safe D180.hZ.alike V179 (by decide)) sf0)
                    have K185 := fun t k => K181 t (st182 t k)
                    have f187 := (((A171.ext E175).keep K179).keep K182)
                    have f188 := (((F171_value.ext E175).keep K179 (ninS (Nat.ne_of_lt (Nat.lt_of_lt_of_le A171.lt le_b175)) nin0)).keep K182 (ninS (Nat.ne_of_lt (Nat.lt_of_lt_of_le A171.lt le_b175)) nin0))
                    have f189 := (((F171_coder.ext E175).keep K179 (ninS (Nat.ne_of_lt (Nat.lt_of_lt_of_le A171.lt le_b175)) nin0)).keep K182 (ninS (Nat.ne_of_lt (Nat.lt_of_lt_of_le A171.lt le_b175)) nin0))
                    have f190 := (Own.sta_keepG (Own.sta_keepG ((SC.ext E171).ext E175) K179 (allS (Own.ns_ca V175) all0)) K182 (allS (Own.ns_ca V179) all0))
                    have hp : ∀ c ∈ ([c0_, c1_, c2_, c3_, c4_, c5_, c6_, c7_] : List Int32), ¬ c < 0 ∧ ¬ (255 : Int32) < c := by
                      intro c hc; simp only [List.mem_cons, List.not_mem_nil, or_false] at hc
                      rcases hc with rfl | rfl | rfl | rfl | rfl | rfl | rfl | rfl
                      · exact hbc0_
                      · exact hbc1_
                      · exact hbc2_
                      · exact hbc3_
                      · exact hbc4_
                      · exact hbc5_
                      · exact hbc6_
                      · exact hbc7_
                    obtain ⟨T186, h186, J186, L186, X186, e186, n186, NN186, K186, t186, st186⟩ := own_newS (Ls := #[vr o0, vi p1]) (cs := [c0_, c1_, c2_, c3_, c4_, c5_, c6_, c7_]) (n := 8) (n0 := n0) X182 hx D184.hZ e182 hw (W_ hw 17 rfl) D184.hown rfl (Nat.le_trans Z0 (Nat.le_trans (Nat.le_refl _) le_b171)) (Nat.le_trans Z0 (Nat.le_trans (Nat.le_trans (Nat.le_trans m172 m176) m180) m184)) f187 f188 f189 V182 f190 hG1 (by decide) (by decide) hp (W_ hw 19 rfl) (W_ hw 20 rfl) (W_ hw 21 rfl) [(.ref b171)] 1 (by decide) (by decide) (by decide) (by decide) (by rw [hml]; rfl) (lenOf pd_2 rfl) (Nat.le_of_eq rfl) (D d3_367)
                    have X186 : Stand p l e ({ frames := 4, cells := 8, slots := 40, locals := 66 } : Room) (s.setVm s.vm) m #[(.ref o0), (.int p1)] below meth c T186 L186 3 20 := X186
                    have N186 : Fr n0 L186 := n186 n0 N182 NN186
                    have m191 : h182.size ≤ h186.size := K186.1
                    have D191 := D184.keep K186 (sfS (Own.safe_null D184.hZ.alike f187 f188) sf0)
                    have K192 := fun t k => K185 t (st186 t k)
                    have kp := ((((((Keep.refl h0 []).ext E171).ext E175).trans K179 (allS (Or.inr (Nat.le_trans m172 le_b175)) all0)).trans K182 (allS (Or.inr (Nat.le_trans m172 le_b175)) all0)).trans K186 (allS (Or.inr le_b171) all0))
                    have tt : own_Txt Z h186 b171 ([c0_, c1_, c2_, c3_, c4_, c5_, c6_, c7_, c8_, c9_, c10_, c11_].take p1.toNatClampNeg) := by rw [hc169]; exact t186
                    exact Own.finHA X186 hx (own_hEL hw) e186 D191 (BodyLoose.notSynchronized Bd) Bd.returns rfl rfl (D d3_370) K192 (by decide) (by decide) (by rw [e186]; exact ⟨_, rfl, N186, kp, tt⟩)
                  · have K193 : Own.To p e below B0 s₁ (mkF m 374 #[vr o0, vi p1] [(.int 9), (.int p1)]) := fun t k => K168 t (by
                      refine Own.icmpYes X0 hx 371 (D d3_304) (feq hc169).2 (by decide) (by decide) ?_
                      refine Own.iloadN X0 hx (D d3_371) rfl ?_
                      refine Own.bipush X0 hx 9 (D d3_372) rfl ?_
                      exact k)
                    by_cases hc194 : p1 = (9 : Int32)
                    · have K195 : Own.To p e below B0 s₁ (mkF m 377 #[vr o0, vi p1] []) := fun t k => K193 t (by
                        refine Own.icmpNo X0 hx (D d3_374) (teq hc194).2 ?_
                        exact k)
                      obtain ⟨T196, h196, b196, X196, e196, E196, g196, A196, D196, st196⟩ := Own.newO (Ls := #[vr o0, vi p1]) (S := []) X0 hx D0.hZ e0 D0.hown (W_ hw 16 rfl) (W_ hw 17 rfl) (W_ hw 18 rfl) (D d3_377) (by decide) (by decide)
                      have le_b196 : h0.size ≤ b196 := Nat.le_of_eq g196.symm
                      have X196 : Stand p l e ({ frames := 4, cells := 8, slots := 40, locals := 66 } : Room) (s.setVm s.vm) m #[(.ref o0), (.int p1)] below meth c T196 [] 1 4 := X196
                      have m197 : h0.size ≤ h196.size := E196.1
                      have D197 := D0.ext E196
                      have F196_value : Fld Z h196 b196 "java/lang/String" "value" "[B" .null := D196 (Or.inr (W_ hw 31 rfl)) (ty := (.array .byte)) (by decide)
                      have F196_coder : Fld Z h196 b196 "java/lang/String" "coder" "B" (.int 0) := D196 (Or.inr (W_ hw 32 rfl)) (ty := .byte) (by decide)
                      have K198 := fun t k => K195 t (st196 t k)
                      have K199 : Own.To p e below B0 T196 (mkF m 383 #[vr o0, vi p1] [(.int 9), (.ref b196), (.ref b196)]) := fun t k => K198 t (by
                        refine Own.dup X196 hx (D d3_380) rfl ?_
                        refine Own.bipush X196 hx 9 (D d3_381) rfl ?_
                        exact k)
                      obtain ⟨T200, h200, b200, X200, e200, E200, g200, V200, st200⟩ := Own.newA (Ls := #[vr o0, vi p1]) (S := [(.ref b196), (.ref b196)]) (z := (9 : Int32)) X196 hx D197.hZ e196 .char rfl rfl (W_ hw 1 rfl) 9 rfl (by decide) (D d3_383) (by decide) (by decide)
                      have le_b200 : h196.size ≤ b200 := Nat.le_of_eq g200.symm
                      have X200 : Stand p l e ({ frames := 4, cells := 8, slots := 40, locals := 66 } : Room) (s.setVm s.vm) m #[(.ref o0), (.int p1)] below meth c T200 [] 2 13 := X200
                      have V200 : Own.CA Z h200 b200 .char [(0 : Int32), (0 : Int32), (0 : Int32), (0 : Int32), (0 : Int32), (0 : Int32), (0 : Int32), (0 : Int32), (0 : Int32)] := V200
                      have m201 : h196.size ≤ h200.size := E200.1
                      have D201 := D197.ext E200
                      have K202 := fun t k => K199 t (st200 t k)
                      have f203 := ((A0.ext E196).ext E200)
                      obtain ⟨T204, h204, L204, X204, e204, N204, K204, V204, st204⟩ := Own.cpR1 (n0 := n0) (Ls := #[vr o0, vi p1]) (S := [(.ref b196), (.ref b196)]) X200 hx D201.hZ e200 f203 V200 (Nat.ne_of_lt (Nat.lt_of_lt_of_le (A0.ext E196).lt le_b200)) (Fr.nil _) (Nat.le_trans Z0 (Nat.le_trans m197 le_b200)) own_hnx rfl 6 (Nat.le_of_ble_eq_true rfl) (Nat.le_of_ble_eq_true rfl) (by decide) (by rw [hby]; exact own_cpd1_385)
                      have V204 : Own.CA Z h204 b200 .char [c0_, c1_, c2_, c3_, c4_, c5_, (0 : Int32), (0 : Int32), (0 : Int32)] := V204
                      have m205 : h200.size ≤ h204.size := K204.1
                      have D205 := D201.keep K204 (sfS (Own.CA.safe D201.hZ.alike V200 (by decide)) sf0)
                      have K206 := fun t k => K202 t (st204 t k)
                      have f208 := (f203.keep K204 (ninS (Nat.ne_of_lt (Nat.lt_of_lt_of_le (A0.ext E196).lt le_b200)) nin0))
                      obtain ⟨T207, h207, L207, X207, e207, N207, K207, V207, st207⟩ := Own.cpR2 (n0 := n0) (Ls := #[vr o0, vi p1]) (S := [(.ref b196), (.ref b196)]) X204 hx D205.hZ e204 f208 V204 (Nat.ne_of_lt (Nat.lt_of_lt_of_le (A0.ext E196).lt le_b200)) N204 (Nat.le_trans Z0 (Nat.le_trans m197 le_b200)) own_hnx rfl 3 (Nat.le_of_ble_eq_true rfl) (Nat.le_of_ble_eq_true rfl) (by decide) (by rw [hby]; exact own_cpd2_421)
                      have V207 : Own.CA Z h207 b200 .char [c0_, c1_, c2_, c3_, c4_, c5_, c6_, c7_, c8_] := V207
                      have m209 : h204.size ≤ h207.size := K207.1
                      have D209 := D205.keep K207 (sfS (Own.CA.safe D205.hZ.alike V204 (by decide)) sf0)
                      have K210 := fun t k => K206 t (st207 t k)
                      have f212 := (((A196.ext E200).keep K204).keep K207)
                      have f213 := (((F196_value.ext E200).keep K204 (ninS (Nat.ne_of_lt (Nat.lt_of_lt_of_le A196.lt le_b200)) nin0)).keep K207 (ninS (Nat.ne_of_lt (Nat.lt_of_lt_of_le A196.lt le_b200)) nin0))
                      have f214 := (((F196_coder.ext E200).keep K204 (ninS (Nat.ne_of_lt (Nat.lt_of_lt_of_le A196.lt le_b200)) nin0)).keep K207 (ninS (Nat.ne_of_lt (Nat.lt_of_lt_of_le A196.lt le_b200)) nin0))
                      have f215 := (Own.sta_keepG (Own.sta_keepG ((SC.ext E196).ext E200) K204 (allS (Own.ns_ca V200) all0)) K207 (allS (Own.ns_ca V204) all0))
                      have hp : ∀ c ∈ ([c0_, c1_, c2_, c3_, c4_, c5_, c6_, c7_, c8_] : List Int32), ¬ c < 0 ∧ ¬ (255 : Int32) < c := by
                        intro c hc; simp only [List.mem_cons, List.not_mem_nil, or_false] at hc
                        rcases hc with rfl | rfl | rfl | rfl | rfl | rfl | rfl | rfl | rfl
                        · exact hbc0_
                        · exact hbc1_
                        · exact hbc2_
                        · exact hbc3_
                        · exact hbc4_
                        · exact hbc5_
                        · exact hbc6_
                        · exact hbc7_
                        · exact hbc8_
                      obtain ⟨T211, h211, J211, L211, X211, e211, n211, NN211, K211, t211, st211⟩ := own_newS (Ls := #[vr o0, vi p1]) (cs := [c0_, c1_, c2_, c3_, c4_, c5_, c6_, c7_, c8_]) (n := 9) (n0 := n0) X207 hx D209.hZ e207 hw (W_ hw 17 rfl) D209.hown rfl (Nat.le_trans Z0 (Nat.le_trans (Nat.le_refl _) le_b196)) (Nat.le_trans Z0 (Nat.le_trans (Nat.le_trans (Nat.le_trans m197 m201) m205) m209)) f212 f213 f214 V207 f215 hG1 (by decide) (by decide) hp (W_ hw 19 rfl) (W_ hw 20 rfl) (W_ hw 21 rfl) [(.ref b196)] 1 (by decide) (by decide) (by decide) (by decide) (by rw [hml]; rfl) (lenOf pd_2 rfl) (Nat.le_of_eq rfl) (D d3_445)
                      have X211 : Stand p l e ({ frames := 4, cells := 8, slots := 40, locals := 66 } : Room) (s.setVm s.vm) m #[(.ref o0), (.int p1)] below meth c T211 L211 3 22 := X211
                      have N211 : Fr n0 L211 := n211 n0 N207 NN211
                      have m216 : h207.size ≤ h211.size := K211.1
                      have D216 := D209.keep K211 (sfS (Own.safe_null D209.hZ.alike f212 f213) sf0)
                      have K217 := fun t k => K210 t (st211 t k)
                      have kp := ((((((Keep.refl h0 []).ext E196).ext E200).trans K204 (allS (Or.inr (Nat.le_trans m197 le_b200)) all0)).trans K207 (allS (Or.inr (Nat.le_trans m197 le_b200)) all0)).trans K211 (allS (Or.inr le_b196) all0))
                      have tt : own_Txt Z h211 b196 ([c0_, c1_, c2_, c3_, c4_, c5_, c6_, c7_, c8_, c9_, c10_, c11_].take p1.toNatClampNeg) := by rw [hc194]; exact t211
                      exact Own.finHA X211 hx (own_hEL hw) e211 D216 (BodyLoose.notSynchronized Bd) Bd.returns rfl rfl (D d3_448) K217 (by decide) (by decide) (by rw [e211]; exact ⟨_, rfl, N211, kp, tt⟩)
                    · have K218 : Own.To p e below B0 s₁ (mkF m 452 #[vr o0, vi p1] [(.int 10), (.int p1)]) := fun t k => K193 t (by
                        refine Own.icmpYes X0 hx 449 (D d3_374) (feq hc194).2 (by decide) (by decide) ?_
                        refine Own.iloadN X0 hx (D d3_449) rfl ?_
                        refine Own.bipush X0 hx 10 (D d3_450) rfl ?_
                        exact k)
                      by_cases hc219 : p1 = (10 : Int32)
                      · have K220 : Own.To p e below B0 s₁ (mkF m 455 #[vr o0, vi p1] []) := fun t k => K218 t (by
                          refine Own.icmpNo X0 hx (D d3_452) (teq hc219).2 ?_
                          exact k)
                        obtain ⟨T221, h221, b221, X221, e221, E221, g221, A221, D221, st221⟩ := Own.newO (Ls := #[vr o0, vi p1]) (S := []) X0 hx D0.hZ e0 D0.hown (W_ hw 16 rfl) (W_ hw 17 rfl) (W_ hw 18 rfl) (D d3_455) (by decide) (by decide)
                        have le_b221 : h0.size ≤ b221 := Nat.le_of_eq g221.symm
                        have X221 : Stand p l e ({ frames := 4, cells := 8, slots := 40, locals := 66 } : Room) (s.setVm s.vm) m #[(.ref o0), (.int p1)] below meth c T221 [] 1 4 := X221
                        have m222 : h0.size ≤ h221.size := E221.1
                        have D222 := D0.ext E221
                        have F221_value : Fld Z h221 b221 "java/lang/String" "value" "[B" .null := D221 (Or.inr (W_ hw 31 rfl)) (ty := (.array .byte)) (by decide)
                        have F221_coder : Fld Z h221 b221 "java/lang/String" "coder" "B" (.int 0) := D221 (Or.inr (W_ hw 32 rfl)) (ty := .byte) (by decide)
                        have K223 := fun t k => K220 t (st221 t k)
                        have K224 : Own.To p e below B0 T221 (mkF m 461 #[vr o0, vi p1] [(.int 10), (.ref b221), (.ref b221)]) := fun t k => K223 t (by
                          refine Own.dup X221 hx (D d3_458) rfl ?_
                          refine Own.bipush X221 hx 10 (D d3_459) rfl ?_
                          exact k)
                        obtain ⟨T225, h225, b225, X225, e225, E225, g225, V225, st225⟩ := Own.newA (Ls := #[vr o0, vi p1]) (S := [(.ref b221), (.ref b221)]) (z := (10 : Int32)) X221 hx D222.hZ e221 .char rfl rfl (W_ hw 1 rfl) 10 rfl (by decide) (D d3_461) (by decide) (by decide)
                        have le_b225 : h221.size ≤ b225 := Nat.le_of_eq g225.symm
                        have X225 : Stand p l e ({ frames := 4, cells := 8, slots := 40, locals := 66 } : Room) (s.setVm s.vm) m #[(.ref o0), (.int p1)] below meth c T225 [] 2 14 := X225
                        have V225 : Own.CA Z h225 b225 .char [(0 : Int32), (0 : Int32), (0 : Int32), (0 : Int32), (0 : Int32), (0 : Int32), (0 : Int32), (0 : Int32), (0 : Int32), (0 : Int32)] := V225
                        have m226 : h221.size ≤ h225.size := E225.1
                        have D226 := D222.ext E225
                        have K227 := fun t k => K224 t (st225 t k)
                        have f228 := ((A0.ext E221).ext E225)
                        obtain ⟨T229, h229, L229, X229, e229, N229, K229, V229, st229⟩ := Own.cpR1 (n0 := n0) (Ls := #[vr o0, vi p1]) (S := [(.ref b221), (.ref b221)]) X225 hx D226.hZ e225 f228 V225 (Nat.ne_of_lt (Nat.lt_of_lt_of_le (A0.ext E221).lt le_b225)) (Fr.nil _) (Nat.le_trans Z0 (Nat.le_trans m222 le_b225)) own_hnx rfl 6 (Nat.le_of_ble_eq_true rfl) (Nat.le_of_ble_eq_true rfl) (by decide) (by rw [hby]; exact own_cpd1_463)
                        have V229 : Own.CA Z h229 b225 .char [c0_, c1_, c2_, c3_, c4_, c5_, (0 : Int32), (0 : Int32), (0 : Int32), (0 : Int32)] := V229
                        have m230 : h225.size ≤ h229.size := K229.1
                        have D230 := D226.keep K229 (sfS (Own.CA.safe D226.hZ.alike V225 (by decide)) sf0)
                        have K231 := fun t k => K227 t (st229 t k)
                        have f233 := (f228.keep K229 (ninS (Nat.ne_of_lt (Nat.lt_of_lt_of_le (A0.ext E221).lt le_b225)) nin0))
                        obtain ⟨T232, h232, L232, X232, e232, N232, K232, V232, st232⟩ := Own.cpR2 (n0 := n0) (Ls := #[vr o0, vi p1]) (S := [(.ref b221), (.ref b221)]) X229 hx D230.hZ e229 f233 V229 (Nat.ne_of_lt (Nat.lt_of_lt_of_le (A0.ext E221).lt le_b225)) N229 (Nat.le_trans Z0 (Nat.le_trans m222 le_b225)) own_hnx rfl 4 (Nat.le_of_ble_eq_true rfl) (Nat.le_of_ble_eq_true rfl) (by decide) (by rw [hby]; exact own_cpd2_499)
                        have V232 : Own.CA Z h232 b225 .char [c0_, c1_, c2_, c3_, c4_, c5_, c6_, c7_, c8_, c9_] := V232
                        have m234 : h229.size ≤ h232.size := K232.1
                        have D234 := D230.keep K232 (sfS (Own.CA.safe D230.hZ.alike V229 (by decide)) sf0)
                        have K235 := fun t k => K231 t (st232 t k)
                        have f237 := (((A221.ext E225).keep K229).keep K232)
                        have f238 := (((F221_value.ext E225).keep K229 (ninS (Nat.ne_of_lt (Nat.lt_of_lt_of_le A221.lt le_b225)) nin0)).keep K232 (ninS (Nat.ne_of_lt (Nat.lt_of_lt_of_le A221.lt le_b225)) nin0))
                        have f239 := (((F221_coder.ext E225).keep K229 (ninS (Nat.ne_of_lt (Nat.lt_of_lt_of_le A221.lt le_b225)) nin0)).keep K232 (ninS (Nat.ne_of_lt (Nat.lt_of_lt_of_le A221.lt le_b225)) nin0))
                        have f240 := (Own.sta_keepG (Own.sta_keepG ((SC.ext E221).ext E225) K229 (allS (Own.ns_ca V225) all0)) K232 (allS (Own.ns_ca V229) all0))
                        have hp : ∀ c ∈ ([c0_, c1_, c2_, c3_, c4_, c5_, c6_, c7_, c8_, c9_] : List Int32), ¬ c < 0 ∧ ¬ (255 : Int32) < c := by
                          intro c hc; simp only [List.mem_cons, List.not_mem_nil, or_false] at hc
                          rcases hc with rfl | rfl | rfl | rfl | rfl | rfl | rfl | rfl | rfl | rfl
                          · exact hbc0_
                          · exact hbc1_
                          · exact hbc2_
                          · exact hbc3_
                          · exact hbc4_
                          · exact hbc5_
                          · exact hbc6_
                          · exact hbc7_
                          · exact hbc8_
                          · exact hbc9_
                        obtain ⟨T236, h236, J236, L236, X236, e236, n236, NN236, K236, t236, st236⟩ := own_newS (Ls := #[vr o0, vi p1]) (cs := [c0_, c1_, c2_, c3_, c4_, c5_, c6_, c7_, c8_, c9_]) (n := 10) (n0 := n0) X232 hx D234.hZ e232 hw (W_ hw 17 rfl) D234.hown rfl (Nat.le_trans Z0 (Nat.le_trans (Nat.le_refl _) le_b221)) (Nat.le_trans Z0 (Nat.le_trans (Nat.le_trans (Nat.le_trans m222 m226) m230) m234)) f237 f238 f239 V232 f240 hG1 (by decide) (by decide) hp (W_ hw 19 rfl) (W_ hw 20 rfl) (W_ hw 21 rfl) [(.ref b221)] 1 (by decide) (by decide) (by decide) (by decide) (by rw [hml]; rfl) (lenOf pd_2 rfl) (Nat.le_of_eq rfl) (D d3_531)
                        have X236 : Stand p l e ({ frames := 4, cells := 8, slots := 40, locals := 66 } : Room) (s.setVm s.vm) m #[(.ref o0), (.int p1)] below meth c T236 L236 3 24 := X236
                        have N236 : Fr n0 L236 := n236 n0 N232 NN236
                        have m241 : h232.size ≤ h236.size := K236.1
                        have D241 := D234.keep K236 (sfS (Own.safe_null D234.hZ.alike f237 f238) sf0)
                        have K242 := fun t k => K235 t (st236 t k)
                        have kp := ((((((Keep.refl h0 []).ext E221).ext E225).trans K229 (allS (Or.inr (Nat.le_trans m222 le_b225)) all0)).trans K232 (allS (Or.inr (Nat.le_trans m222 le_b225)) all0)).trans K236 (allS (Or.inr le_b221) all0))
                        have tt : own_Txt Z h236 b221 ([c0_, c1_, c2_, c3_, c4_, c5_, c6_, c7_, c8_, c9_, c10_, c11_].take p1.toNatClampNeg) := by rw [hc219]; exact t236
                        exact Own.finHA X236 hx (own_hEL hw) e236 D241 (BodyLoose.notSynchronized Bd) Bd.returns rfl rfl (D d3_534) K242 (by decide) (by decide) (by rw [e236]; exact ⟨_, rfl, N236, kp, tt⟩)
                      · have K243 : Own.To p e below B0 s₁ (mkF m 538 #[vr o0, vi p1] [(.int 11), (.int p1)]) := fun t k => K218 t (by
                          refine Own.icmpYes X0 hx 535 (D d3_452) (feq hc219).2 (by decide) (by decide) ?_
                          refine Own.iloadN X0 hx (D d3_535) rfl ?_
                          refine Own.bipush X0 hx 11 (D d3_536) rfl ?_
                          exact k)
                        by_cases hc244 : p1 = (11 : Int32)
                        · have K245 : Own.To p e below B0 s₁ (mkF m 541 #[vr o0, vi p1] []) := fun t k => K243 t (by
                            refine Own.icmpNo X0 hx (D d3_538) (teq hc244).2 ?_
                            exact k)
                          obtain ⟨T246, h246, b246, X246, e246, E246, g246, A246, D246, st246⟩ := Own.newO (Ls := #[vr o0, vi p1]) (S := []) X0 hx D0.hZ e0 D0.hown (W_ hw 16 rfl) (W_ hw 17 rfl) (W_ hw 18 rfl) (D d3_541) (by decide) (by decide)
                          have le_b246 : h0.size ≤ b246 := Nat.le_of_eq g246.symm
                          have X246 : Stand p l e ({ frames := 4, cells := 8, slots := 40, locals := 66 } : Room) (s.setVm s.vm) m #[(.ref o0), (.int p1)] below meth c T246 [] 1 4 := X246
                          have m247 : h0.size ≤ h246.size := E246.1
                          have D247 := D0.ext E246
                          have F246_value : Fld Z h246 b246 "java/lang/String" "value" "[B" .null := D246 (Or.inr (W_ hw 31 rfl)) (ty := (.array .byte)) (by decide)
                          have F246_coder : Fld Z h246 b246 "java/lang/String" "coder" "B" (.int 0) := D246 (Or.inr (W_ hw 32 rfl)) (ty := .byte) (by decide)
                          have K248 := fun t k => K245 t (st246 t k)
                          have K249 : Own.To p e below B0 T246 (mkF m 547 #[vr o0, vi p1] [(.int 11), (.ref b246), (.ref b246)]) := fun t k => K248 t (by
                            refine Own.dup X246 hx (D d3_544) rfl ?_
                            refine Own.bipush X246 hx 11 (D d3_545) rfl ?_
                            exact k)
                          obtain ⟨T250, h250, b250, X250, e250, E250, g250, V250, st250⟩ := Own.newA (Ls := #[vr o0, vi p1]) (S := [(.ref b246), (.ref b246)]) (z := (11 : Int32)) X246 hx D247.hZ e246 .char rfl rfl (W_ hw 1 rfl) 11 rfl (by decide) (D d3_547) (by decide) (by decide)
                          have le_b250 : h246.size ≤ b250 := Nat.le_of_eq g250.symm
                          have X250 : Stand p l e ({ frames := 4, cells := 8, slots := 40, locals := 66 } : Room) (s.setVm s.vm) m #[(.ref o0), (.int p1)] below meth c T250 [] 2 15 := X250
                          have V250 : Own.CA Z h250 b250 .char [(0 : Int32), (0 : Int32), (0 : Int32), (0 : Int32), (0 : Int32), (0 : Int32), (0 : Int32), (0 : Int32), (0 : Int32), (0 : Int32), (0 : Int32)] := V250
                          have m251 : h246.size ≤ h250.size := E250.1
                          have D251 := D247.ext E250
                          have K252 := fun t k => K249 t (st250 t k)
                          have f253 := ((A0.ext E246).ext E250)
                          obtain ⟨T254, h254, L254, X254, e254, N254, K254, V254, st254⟩ := Own.cpR1 (n0 := n0) (Ls := #[vr o0, vi p1]) (S := [(.ref b246), (.ref b246)]) X250 hx D251.hZ e250 f253 V250 (Nat.ne_of_lt (Nat.lt_of_lt_of_le (A0.ext E246).lt le_b250)) (Fr.nil _) (Nat.le_trans Z0 (Nat.le_trans m247 le_b250)) own_hnx rfl 6 (Nat.le_of_ble_eq_true rfl) (Nat.le_of_ble_eq_true rfl) (by decide) (by rw [hby]; exact own_cpd1_549)
                          have V254 : Own.CA Z h254 b250 .char [c0_, c1_, c2_, c3_, c4_, c5_, (0 : Int32), (0 : Int32), (0 : Int32), (0 : Int32), (0 : Int32)] := V254
                          have m255 : h250.size ≤ h254.size := K254.1
                          have D255 := D251.keep K254 (sfS (Own.CA.safe D251.hZ.alike V250 (by decide)) sf0)
                          have K256 := fun t k => K252 t (st254 t k)
                          have f258 := (f253.keep K254 (ninS (Nat.ne_of_lt (Nat.lt_of_lt_of_le (A0.ext E246).lt le_b250)) nin0))
                          obtain ⟨T257, h257, L257, X257, e257, N257, K257, V257, st257⟩ := Own.cpR2 (n0 := n0) (Ls := #[vr o0, vi p1]) (S := [(.ref b246), (.ref b246)]) X254 hx D255.hZ e254 f258 V254 (Nat.ne_of_lt (Nat.lt_of_lt_of_le (A0.ext E246).lt le_b250)) N254 (Nat.le_trans Z0 (Nat.le_trans m247 le_b250)) own_hnx rfl 5 (Nat.le_of_ble_eq_true rfl) (Nat.le_of_ble_eq_true rfl) (by decide) (by rw [hby]; exact own_cpd2_585)
                          have V257 : Own.CA Z h257 b250 .char [c0_, c1_, c2_, c3_, c4_, c5_, c6_, c7_, c8_, c9_, c10_] := V257
                          have m259 : h254.size ≤ h257.size := K257.1
                          have D259 := D255.keep K257 (sfS (Own.CA.safe D255.hZ.alike V254 (by decide)) sf0)
                          have K260 := fun t k => K256 t (st257 t k)
                          have f262 := (((A246.ext E250).keep K254).keep K257)
                          have f263 := (((F246_value.ext E250).keep K254 (ninS (Nat.ne_of_lt (Nat.lt_of_lt_of_le A246.lt le_b250)) nin0)).keep K257 (ninS (Nat.ne_of_lt (Nat.lt_of_lt_of_le A246.lt le_b250)) nin0))
                          have f264 := (((F246_coder.ext E250).keep K254 (ninS (Nat.ne_of_lt (Nat.lt_of_lt_of_le A246.lt le_b250)) nin0)).keep K257 (ninS (Nat.ne_of_lt (Nat.lt_of_lt_of_le A246.lt le_b250)) nin0))
                          have f265 := (Own.sta_keepG (Own.sta_keepG ((SC.ext E246).ext E250) K254 (allS (Own.ns_ca V250) all0)) K257 (allS (Own.ns_ca V254) all0))
                          have hp : ∀ c ∈ ([c0_, c1_, c2_, c3_, c4_, c5_, c6_, c7_, c8_, c9_, c10_] : List Int32), ¬ c < 0 ∧ ¬ (255 : Int32) < c := by
                            intro c hc; simp only [List.mem_cons, List.not_mem_nil, or_false] at hc
                            rcases hc with rfl | rfl | rfl | rfl | rfl | rfl | rfl | rfl | rfl | rfl | rfl
                            · exact hbc0_
                            · exact hbc1_
                            · exact hbc2_
                            · exact hbc3_
                            · exact hbc4_
                            · exact hbc5_
                            · exact hbc6_
                            · exact hbc7_
                            · exact hbc8_
                            · exact hbc9_
                            · exact hbc10_
                          obtain ⟨T261, h261, J261, L261, X261, e261, n261, NN261, K261, t261, st261⟩ := own_newS (Ls := #[vr o0, vi p1]) (cs := [c0_, c1_, c2_, c3_, c4_, c5_, c6_, c7_, c8_, c9_, c10_]) (n := 11) (n0 := n0) X257 hx D259.hZ e257 hw (W_ hw 17 rfl) D259.hown rfl (Nat.le_trans Z0 (Nat.le_trans (Nat.le_refl _) le_b246)) (Nat.le_trans Z0 (Nat.le_trans (Nat.le_trans (Nat.le_trans m247 m251) m255) m259)) f262 f263 f264 V257 f265 hG1 (by decide) (by decide) hp (W_ hw 19 rfl) (W_ hw 20 rfl) (W_ hw 21 rfl) [(.ref b246)] 1 (by decide) (by decide) (by decide) (by decide) (by rw [hml]; rfl) (lenOf pd_2 rfl) (Nat.le_of_eq rfl) (D d3_625)
                          have X261 : Stand p l e ({ frames := 4, cells := 8, slots := 40, locals := 66 } : Room) (s.setVm s.vm) m #[(.ref o0), (.int p1)] below meth c T261 L261 3 26 := X261
                          have N261 : Fr n0 L261 := n261 n0 N257 NN261
                          have m266 : h257.size ≤ h261.size := K261.1
                          have D266 := D259.keep K261 (sfS (Own.safe_null D259.hZ.alike f262 f263) sf0)
                          have K267 := fun t k => K260 t (st261 t k)
                          have kp := ((((((Keep.refl h0 []).ext E246).ext E250).trans K254 (allS (Or.inr (Nat.le_trans m247 le_b250)) all0)).trans K257 (allS (Or.inr (Nat.le_trans m247 le_b250)) all0)).trans K261 (allS (Or.inr le_b246) all0))
                          have tt : own_Txt Z h261 b246 ([c0_, c1_, c2_, c3_, c4_, c5_, c6_, c7_, c8_, c9_, c10_, c11_].take p1.toNatClampNeg) := by rw [hc244]; exact t261
                          exact Own.finHA X261 hx (own_hEL hw) e261 D266 (BodyLoose.notSynchronized Bd) Bd.returns rfl rfl (D d3_628) K267 (by decide) (by decide) (by rw [e261]; exact ⟨_, rfl, N261, kp, tt⟩)
                        · have K268 : Own.To p e below B0 s₁ (mkF m 629 #[vr o0, vi p1] []) := fun t k => K243 t (by
                            refine Own.icmpYes X0 hx 629 (D d3_538) (feq hc244).2 (by decide) (by decide) ?_
                            exact k)
                          obtain ⟨T269, h269, b269, X269, e269, E269, g269, A269, D269, st269⟩ := Own.newO (Ls := #[vr o0, vi p1]) (S := []) X0 hx D0.hZ e0 D0.hown (W_ hw 16 rfl) (W_ hw 17 rfl) (W_ hw 18 rfl) (D d3_629) (by decide) (by decide)
                          have le_b269 : h0.size ≤ b269 := Nat.le_of_eq g269.symm
                          have X269 : Stand p l e ({ frames := 4, cells := 8, slots := 40, locals := 66 } : Room) (s.setVm s.vm) m #[(.ref o0), (.int p1)] below meth c T269 [] 1 4 := X269
                          have m270 : h0.size ≤ h269.size := E269.1
                          have D270 := D0.ext E269
                          have F269_value : Fld Z h269 b269 "java/lang/String" "value" "[B" .null := D269 (Or.inr (W_ hw 31 rfl)) (ty := (.array .byte)) (by decide)
                          have F269_coder : Fld Z h269 b269 "java/lang/String" "coder" "B" (.int 0) := D269 (Or.inr (W_ hw 32 rfl)) (ty := .byte) (by decide)
                          have K271 := fun t k => K268 t (st269 t k)
                          have K272 : Own.To p e below B0 T269 (mkF m 635 #[vr o0, vi p1] [(.int 12), (.ref b269), (.ref b269)]) := fun t k => K271 t (by
                            refine Own.dup X269 hx (D d3_632) rfl ?_
                            refine Own.bipush X269 hx 12 (D d3_633) rfl ?_
                            exact k)
                          obtain ⟨T273, h273, b273, X273, e273, E273, g273, V273, st273⟩ := Own.newA (Ls := #[vr o0, vi p1]) (S := [(.ref b269), (.ref b269)]) (z := (12 : Int32)) X269 hx D270.hZ e269 .char rfl rfl (W_ hw 1 rfl) 12 rfl (by decide) (D d3_635) (by decide) (by decide)
                          have le_b273 : h269.size ≤ b273 := Nat.le_of_eq g273.symm
                          have X273 : Stand p l e ({ frames := 4, cells := 8, slots := 40, locals := 66 } : Room) (s.setVm s.vm) m #[(.ref o0), (.int p1)] below meth c T273 [] 2 16 := X273
                          have V273 : Own.CA Z h273 b273 .char [(0 : Int32), (0 : Int32), (0 : Int32), (0 : Int32), (0 : Int32), (0 : Int32), (0 : Int32), (0 : Int32), (0 : Int32), (0 : Int32), (0 : Int32), (0 : Int32)] := V273
                          have m274 : h269.size ≤ h273.size := E273.1
                          have D274 := D270.ext E273
                          have K275 := fun t k => K272 t (st273 t k)
                          have f276 := ((A0.ext E269).ext E273)
                          obtain ⟨T277, h277, L277, X277, e277, N277, K277, V277, st277⟩ := Own.cpR1 (n0 := n0) (Ls := #[vr o0, vi p1]) (S := [(.ref b269), (.ref b269)]) X273 hx D274.hZ e273 f276 V273 (Nat.ne_of_lt (Nat.lt_of_lt_of_le (A0.ext E269).lt le_b273)) (Fr.nil _) (Nat.le_trans Z0 (Nat.le_trans m270 le_b273)) own_hnx rfl 6 (Nat.le_of_ble_eq_true rfl) (Nat.le_of_ble_eq_true rfl) (by decide) (by rw [hby]; exact own_cpd1_637)
                          have V277 : Own.CA Z h277 b273 .char [c0_, c1_, c2_, c3_, c4_, c5_, (0 : Int32), (0 : Int32), (0 : Int32), (0 : Int32), (0 : Int32), (0 : Int32)] := V277
                          have m278 : h273.size ≤ h277.size := K277.1
                          have D278 := D274.keep K277 (sfS (Own.CA.safe D274.hZ.alike V273 (by decide)) sf0)
                          have K279 := fun t k => K275 t (st277 t k)
                          have f281 := (f276.keep K277 (ninS (Nat.ne_of_lt (Nat.lt_of_lt_of_le (A0.ext E269).lt le_b273)) nin0))
                          obtain ⟨T280, h280, L280, X280, e280, N280, K280, V280, st280⟩ := Own.cpR2 (n0 := n0) (Ls := #[vr o0, vi p1]) (S := [(.ref b269), (.ref b269)]) X277 hx D278.hZ e277 f281 V277 (Nat.ne_of_lt (Nat.lt_of_lt_of_le (A0.ext E269).lt le_b273)) N277 (Nat.le_trans Z0 (Nat.le_trans m270 le_b273)) own_hnx rfl 6 (Nat.le_of_ble_eq_true rfl) (Nat.le_of_ble_eq_true rfl) (by decide) (by rw [hby]; exact own_cpd2_673)
                          have V280 : Own.CA Z h280 b273 .char [c0_, c1_, c2_, c3_, c4_, c5_, c6_, c7_, c8_, c9_, c10_, c11_] := V280
                          have m282 : h277.size ≤ h280.size := K280.1
                          have D282 := D278.keep K280 (sfS (Own.CA.safe D278.hZ.alike V277 (by decide)) sf0)
                          have K283 := fun t k => K279 t (st280 t k)
                          have f285 := (((A269.ext E273).keep K277).keep K280)
                          have f286 := (((F269_value.ext E273).keep K277 (ninS (Nat.ne_of_lt (Nat.lt_of_lt_of_le A269.lt le_b273)) nin0)).keep K280 (ninS (Nat.ne_of_lt (Nat.lt_of_lt_of_le A269.lt le_b273)) nin0))
                          have f287 := (((F269_coder.ext E273).keep K277 (ninS (Nat.ne_of_lt (Nat.lt_of_lt_of_le A269.lt le_b273)) nin0)).keep K280 (ninS (Nat.ne_of_lt (Nat.lt_of_lt_of_le A269.lt le_b273)) nin0))
                          have f288 := (Own.sta_keepG (Own.sta_keepG ((SC.ext E269).ext E273) K277 (allS (Own.ns_ca V273) all0)) K280 (allS (Own.ns_ca V277) all0))
                          have hp : ∀ c ∈ ([c0_, c1_, c2_, c3_, c4_, c5_, c6_, c7_, c8_, c9_, c10_, c11_] : List Int32), ¬ c < 0 ∧ ¬ (255 : Int32) < c := by
                            intro c hc; simp only [List.mem_cons, List.not_mem_nil, or_false] at hc
                            rcases hc with rfl | rfl | rfl | rfl | rfl | rfl | rfl | rfl | rfl | rfl | rfl | rfl
                            · exact hbc0_
                            · exact hbc1_
                            · exact hbc2_
                            · exact hbc3_
                            · exact hbc4_
                            · exact hbc5_
                            · exact hbc6_
                            · exact hbc7_
                            · exact hbc8_
                            · exact hbc9_
                            · exact hbc10_
                            · exact hbc11_
                          obtain ⟨T284, h284, J284, L284, X284, e284, n284, NN284, K284, t284, st284⟩ := own_newS (Ls := #[vr o0, vi p1]) (cs := [c0_, c1_, c2_, c3_, c4_, c5_, c6_, c7_, c8_, c9_, c10_, c11_]) (n := 12) (n0 := n0) X280 hx D282.hZ e280 hw (W_ hw 17 rfl) D282.hown rfl (Nat.le_trans Z0 (Nat.le_trans (Nat.le_refl _) le_b269)) (Nat.le_trans Z0 (Nat.le_trans (Nat.le_trans (Nat.le_trans m270 m274) m278) m282)) f285 f286 f287 V280 f288 hG1 (by decide) (by decide) hp (W_ hw 19 rfl) (W_ hw 20 rfl) (W_ hw 21 rfl) [(.ref b269)] 1 (by decide) (by decide) (by decide) (by decide) (by rw [hml]; rfl) (lenOf pd_2 rfl) (Nat.le_of_eq rfl) (D d3_721)
                          have X284 : Stand p l e ({ frames := 4, cells := 8, slots := 40, locals := 66 } : Room) (s.setVm s.vm) m #[(.ref o0), (.int p1)] below meth c T284 L284 3 28 := X284
                          have N284 : Fr n0 L284 := n284 n0 N280 NN284
                          have m289 : h280.size ≤ h284.size := K284.1
                          have D289 := D282.keep K284 (sfS (Own.safe_null D282.hZ.alike f285 f286) sf0)
                          have K290 := fun t k => K283 t (st284 t k)
                          have kp := ((((((Keep.refl h0 []).ext E269).ext E273).trans K277 (allS (Or.inr (Nat.le_trans m270 le_b273)) all0)).trans K280 (allS (Or.inr (Nat.le_trans m270 le_b273)) all0)).trans K284 (allS (Or.inr le_b269) all0))
                          have tt : own_Txt Z h284 b269 ([c0_, c1_, c2_, c3_, c4_, c5_, c6_, c7_, c8_, c9_, c10_, c11_].take p1.toNatClampNeg) := by rw [own_12 hc2 hc18 hc39 hc60 hc81 hc102 hc123 hc144 hc169 hc194 hc219 hc244 hp1]; exact t284
                          exact Own.finHA X284 hx (own_hEL hw) e284 D289 (BodyLoose.notSynchronized Bd) Bd.returns rfl rfl (D d3_724) K290 (by decide) (by decide) (by rw [e284]; exact ⟨_, rfl, N284, kp, tt⟩)

theorem d17_0 : decode J21 0 = .ok (.iload_n 0, 1) := by decide +kernel
theorem d17_1 : decode J21 1 = .ok (.bipush 65, 2) := by decide +kernel
theorem d17_3 : decode J21 3 = .ok (.if_icmp .lt 9, 3) := by decide +kernel
theorem d17_6 : decode J21 6 = .ok (.iload_n 0, 1) := by decide +kernel
theorem d17_7 : decode J21 7 = .ok (.bipush 90, 2) := by decide +kernel
theorem d17_9 : decode J21 9 = .ok (.if_icmp .le 27, 3) := by decide +kernel
theorem d17_12 : decode J21 12 = .ok (.iload_n 0, 1) := by decide +kernel
theorem d17_13 : decode J21 13 = .ok (.bipush 97, 2) := by decide +kernel
theorem d17_15 : decode J21 15 = .ok (.if_icmp .lt 9, 3) := by decide +kernel
theorem d17_18 : decode J21 18 = .ok (.iload_n 0, 1) := by decide +kernel
theorem d17_19 : decode J21 19 = .ok (.bipush 122, 2) := by decide +kernel
theorem d17_21 : decode J21 21 = .ok (.if_icmp .le 15, 3) := by decide +kernel
theorem d17_24 : decode J21 24 = .ok (.iload_n 0, 1) := by decide +kernel
theorem d17_25 : decode J21 25 = .ok (.bipush 48, 2) := by decide +kernel
theorem d17_27 : decode J21 27 = .ok (.if_icmp .lt 13, 3) := by decide +kernel
theorem d17_30 : decode J21 30 = .ok (.iload_n 0, 1) := by decide +kernel
theorem d17_31 : decode J21 31 = .ok (.bipush 57, 2) := by decide +kernel
theorem d17_33 : decode J21 33 = .ok (.if_icmp .gt 7, 3) := by decide +kernel
theorem d17_36 : decode J21 36 = .ok (.iconst 1, 1) := by decide +kernel
theorem d17_37 : decode J21 37 = .ok (.goto 4, 3) := by decide +kernel
theorem d17_40 : decode J21 40 = .ok (.iconst 0, 1) := by decide +kernel
theorem d17_41 : decode J21 41 = .ok (.ireturn, 1) := by decide +kernel
theorem ef_17 (m : MethodId) (p0 : Int32) : entryFrame m #[(.int p0)] 1 = mkF m 0 #[.val (.int p0)] [] := by first | (simp [entryFrame, mkF, argsToLocals, Value.category]; done) | rfl
def F17 (p0 : Int32) : Int32 := (nar .boolean (if p0 < (65 : Int32) then (if p0 < (97 : Int32) then (if p0 < (48 : Int32) then (0 : Int32) else (if (57 : Int32) < p0 then (0 : Int32) else (1 : Int32))) else (if (122 : Int32) < p0 then (if p0 < (48 : Int32) then (0 : Int32) else (if (57 : Int32) < p0 then (0 : Int32) else (1 : Int32))) else (1 : Int32))) else (if (90 : Int32) < p0 then (if p0 < (97 : Int32) then (if p0 < (48 : Int32) then (0 : Int32) else (if (57 : Int32) < p0 then (0 : Int32) else (1 : Int32))) else (if (122 : Int32) < p0 then (if p0 < (48 : Int32) then (0 : Int32) else (if (57 : Int32) < p0 then (0 : Int32) else (1 : Int32))) else (1 : Int32))) else (1 : Int32))))
set_option maxRecDepth 65536 in
set_option maxHeartbeats 40000000 in
theorem c17 (l : Launch) (Z : State) (a0 : Array Value) (hw : ∀ d ∈ tables_1, d.before a0 Z = true) (p0 : Int32) (h0 : Heap) : Own.Con l Z (⟨"com/example/pliktflow/pliktflow/deposit/MediaTypeIsWellFormedPinLaw", "isLd", "(C)Z"⟩ : MethodName) method_9_code 1 (some .boolean) ({ frames := 0, cells := 0, slots := 0, locals := 0 } : Room) #[(.int p0)] h0 (Own.Pure (.int (F17 p0)) h0) := by
  intro ws
  refine MetFree.of_bodySF (plainFor_of_name pn_1) hisR ?_
  intro p e s m args below meth c s₁ Bd hml0 hP hK
  obtain ⟨rfl, hZ, hh⟩ := hP
  have hx := Bd.exec
  have hby := Bd.bytes
  have D := fun {n : Nat} {i} (d : decode method_9_code n = .ok i) => hb hby d
  have hml : c.maxLocals = 1 := hml0
  have hown : s.vm.findClass "com/example/pliktflow/pliktflow/deposit/MediaTypeIsWellFormedPinLaw" = some m.cls := findClass_of_methodNamed Bd.named
  have hnm := (name_of_methodNamed Bd.named Bd.method).1
  have X0 : Stand p l e ({ frames := 0, cells := 0, slots := 0, locals := 0 } : Room) s m #[(.int p0)] below meth c s₁ [] 0 0 := Stand.of_body Bd
  have e0 : s₁.heap = h0 := by rw [← hh, Bd.state]; rfl
  have K0 : ∀ t, Steps p.tables e below (s₁.setTop (mkF m 0 #[vi p0] [])) t → Steps p.tables e below (s₁.setTop (entryFrame m #[(.int p0)] 1)) t := fun t k => castTop (ef_17 m p0) k
  generalize s₁.setTop (entryFrame m #[(.int p0)] 1) = B0 at K0 ⊢
  show Own.Fin p e below B0 s (({ frames := 0, cells := 0, slots := 0, locals := 0 } : Room)).cells (({ frames := 0, cells := 0, slots := 0, locals := 0 } : Room)).slots (Own.Pure (.int (F17 p0)) h0)
  have K1 : Own.To p e below B0 s₁ (mkF m 3 #[vi p0] [(.int 65), (.int p0)]) := fun t k => K0 t (by
    refine Own.iloadN X0 hx (D d17_0) rfl ?_
    refine Own.bipush X0 hx 65 (D d17_1) rfl ?_
    exact k)
  obtain ⟨x70, hx70⟩ : ∃ z : Int32, z = (if p0 < (65 : Int32) then (if p0 < (97 : Int32) then (if p0 < (48 : Int32) then (0 : Int32) else (if (57 : Int32) < p0 then (0 : Int32) else (1 : Int32))) else (if (122 : Int32) < p0 then (if p0 < (48 : Int32) then (0 : Int32) else (if (57 : Int32) < p0 then (0 : Int32) else (1 : Int32))) else (1 : Int32))) else (if (90 : Int32) < p0 then (if p0 < (97 : Int32) then (if p0 < (48 : Int32) then (0 : Int32) else (if (57 : Int32) < p0 then (0 : Int32) else (1 : Int32))) else (if (122 : Int32) < p0 then (if p0 < (48 : Int32) then (0 : Int32) else (if (57 : Int32) < p0 then (0 : Int32) else (1 : Int32))) else (1 : Int32))) else (1 : Int32))) := ⟨_, rfl⟩
  obtain ⟨T71, X71, e71, K71⟩ : ∃ T' : State, Stand p l e ({ frames := 0, cells := 0, slots := 0, locals := 0 } : Room) s m #[(.int p0)] below meth c T' [] 0 0 ∧ T'.heap = h0 ∧ Own.To p e below B0 T' (mkF m 41 #[vi p0] [(.int x70)]) := by
    by_cases hc2 : p0 < (65 : Int32)
    · have K3 : Own.To p e below B0 s₁ (mkF m 15 #[vi p0] [(.int 97), (.int p0)]) := fun t k => K1 t (by
        refine Own.icmpYes X0 hx 12 (D d17_3) (tlt hc2).1 (by decide) (by decide) ?_
        refine Own.iloadN X0 hx (D d17_12) rfl ?_
        refine Own.bipush X0 hx 97 (D d17_13) rfl ?_
        exact k)
      obtain ⟨x32, hx32⟩ : ∃ z : Int32, z = (if p0 < (97 : Int32) then (if p0 < (48 : Int32) then (0 : Int32) else (if (57 : Int32) < p0 then (0 : Int32) else (1 : Int32))) else (if (122 : Int32) < p0 then (if p0 < (48 : Int32) then (0 : Int32) else (if (57 : Int32) < p0 then (0 : Int32) else (1 : Int32))) else (1 : Int32))) := ⟨_, rfl⟩
      obtain ⟨T33, X33, e33, K33⟩ : ∃ T' : State, Stand p l e ({ frames := 0, cells := 0, slots := 0, locals := 0 } : Room) s m #[(.int p0)] below meth c T' [] 0 0 ∧ T'.heap = h0 ∧ Own.To p e below B0 T' (mkF m 41 #[vi p0] [(.int x32)]) := by
        by_cases hc4 : p0 < (97 : Int32)
        · have K5 : Own.To p e below B0 s₁ (mkF m 27 #[vi p0] [(.int 48), (.int p0)]) := fun t k => K3 t (by
            refine Own.icmpYes X0 hx 24 (D d17_15) (tlt hc4).1 (by decide) (by decide) ?_
            refine Own.iloadN X0 hx (D d17_24) rfl ?_
            refine Own.bipush X0 hx 48 (D d17_25) rfl ?_
            exact k)
          obtain ⟨x14, hx14⟩ : ∃ z : Int32, z = (if p0 < (48 : Int32) then (0 : Int32) else (if (57 : Int32) < p0 then (0 : Int32) else (1 : Int32))) := ⟨_, rfl⟩
          obtain ⟨T15, X15, e15, K15⟩ : ∃ T' : State, Stand p l e ({ frames := 0, cells := 0, slots := 0, locals := 0 } : Room) s m #[(.int p0)] below meth c T' [] 0 0 ∧ T'.heap = h0 ∧ Own.To p e below B0 T' (mkF m 41 #[vi p0] [(.int x14)]) := by
            by_cases hc6 : p0 < (48 : Int32)
            · have K7 : Own.To p e below B0 s₁ (mkF m 41 #[vi p0] [(.int 0)]) := fun t k => K5 t (by
                refine Own.icmpYes X0 hx 40 (D d17_27) (tlt hc6).1 (by decide) (by decide) ?_
                refine Own.iconst X0 hx 0 (D d17_40) rfl ?_
                exact k)
              exact ⟨s₁, X0, e0, fun t k => K7 t (by rw [hx14, if_pos hc6] at k; exact k)⟩
            · have K8 : Own.To p e below B0 s₁ (mkF m 33 #[vi p0] [(.int 57), (.int p0)]) := fun t k => K5 t (by
                refine Own.icmpNo X0 hx (D d17_27) (flt hc6).1 ?_
                refine Own.iloadN X0 hx (D d17_30) rfl ?_
                refine Own.bipush X0 hx 57 (D d17_31) rfl ?_
                exact k)
              obtain ⟨x12, hx12⟩ : ∃ z : Int32, z = (if (57 : Int32) < p0 then (0 : Int32) else (1 : Int32)) := ⟨_, rfl⟩
              obtain ⟨T13, X13, e13, K13⟩ : ∃ T' : State, Stand p l e ({ frames := 0, cells := 0, slots := 0, locals := 0 } : Room) s m #[(.int p0)] below meth c T' [] 0 0 ∧ T'.heap = h0 ∧ Own.To p e below B0 T' (mkF m 41 #[vi p0] [(.int x12)]) := by
                by_cases hc9 : (57 : Int32) < p0
                · have K10 : Own.To p e below B0 s₁ (mkF m 41 #[vi p0] [(.int 0)]) := fun t k => K8 t (by
                    refine Own.icmpYes X0 hx 40 (D d17_33) (tlt hc9).2.2.1 (by decide) (by decide) ?_
                    refine Own.iconst X0 hx 0 (D d17_40) rfl ?_
                    exact k)
                  exact ⟨s₁, X0, e0, fun t k => K10 t (by rw [hx12, if_pos hc9] at k; exact k)⟩
                · have K11 : Own.To p e below B0 s₁ (mkF m 41 #[vi p0] [(.int 1)]) := fun t k => K8 t (by
                    refine Own.icmpNo X0 hx (D d17_33) (flt hc9).2.2.1 ?_
                    refine Own.iconst X0 hx 1 (D d17_36) rfl ?_
                    refine Own.goto X0 hx 41 (D d17_37) (by decide) (by decide) ?_
                    exact k)
                  exact ⟨s₁, X0, e0, fun t k => K11 t (by rw [hx12, if_neg hc9] at k; exact k)⟩
              exact ⟨T13, X13, e13, fun t k => K13 t (by subst hx12; rw [hx14, if_neg hc6] at k; exact k)⟩
          exact ⟨T15, X15, e15, fun t k => K15 t (by subst hx14; rw [hx32, if_pos hc4] at k; exact k)⟩
        · have K16 : Own.To p e below B0 s₁ (mkF m 21 #[vi p0] [(.int 122), (.int p0)]) := fun t k => K3 t (by
            refine Own.icmpNo X0 hx (D d17_15) (flt hc4).1 ?_
            refine Own.iloadN X0 hx (D d17_18) rfl ?_
            refine Own.bipush X0 hx 122 (D d17_19) rfl ?_
            exact k)
          obtain ⟨x30, hx30⟩ : ∃ z : Int32, z = (if (122 : Int32) < p0 then (if p0 < (48 : Int32) then (0 : Int32) else (if (57 : Int32) < p0 then (0 : Int32) else (1 : Int32))) else (1 : Int32)) := ⟨_, rfl⟩
          obtain ⟨T31, X31, e31, K31⟩ : ∃ T' : State, Stand p l e ({ frames := 0, cells := 0, slots := 0, locals := 0 } : Room) s m #[(.int p0)] below meth c T' [] 0 0 ∧ T'.heap = h0 ∧ Own.To p e below B0 T' (mkF m 41 #[vi p0] [(.int x30)]) := by
            by_cases hc17 : (122 : Int32) < p0
            · have K18 : Own.To p e below B0 s₁ (mkF m 27 #[vi p0] [(.int 48), (.int p0)]) := fun t k => K16 t (by
                refine Own.icmpNo X0 hx (D d17_21) (tlt hc17).2.2.2 ?_
                refine Own.iloadN X0 hx (D d17_24) rfl ?_
                refine Own.bipush X0 hx 48 (D d17_25) rfl ?_
                exact k)
              obtain ⟨x27, hx27⟩ : ∃ z : Int32, z = (if p0 < (48 : Int32) then (0 : Int32) else (if (57 : Int32) < p0 then (0 : Int32) else (1 : Int32))) := ⟨_, rfl⟩
              obtain ⟨T28, X28, e28, K28⟩ : ∃ T' : State, Stand p l e ({ frames := 0, cells := 0, slots := 0, locals := 0 } : Room) s m #[(.int p0)] below meth c T' [] 0 0 ∧ T'.heap = h0 ∧ Own.To p e below B0 T' (mkF m 41 #[vi p0] [(.int x27)]) := by
                by_cases hc19 : p0 < (48 : Int32)
                · have K20 : Own.To p e below B0 s₁ (mkF m 41 #[vi p0] [(.int 0)]) := fun t k => K18 t (by
                    refine Own.icmpYes X0 hx 40 (D d17_27) (tlt hc19).1 (by decide) (by decide) ?_
                    refine Own.iconst X0 hx 0 (D d17_40) rfl ?_
                    exact k)
                  exact ⟨s₁, X0, e0, fun t k => K20 t (by rw [hx27, if_pos hc19] at k; exact k)⟩
                · have K21 : Own.To p e below B0 s₁ (mkF m 33 #[vi p0] [(.int 57), (.int p0)]) := fun t k => K18 t (by
                    refine Own.icmpNo X0 hx (D d17_27) (flt hc19).1 ?_
                    refine Own.iloadN X0 hx (D d17_30) rfl ?_
                    refine Own.bipush X0 hx 57 (D d17_31) rfl ?_
                    exact k)
                  obtain ⟨x25, hx25⟩ : ∃ z : Int32, z = (if (57 : Int32) < p0 then (0 : Int32) else (1 : Int32)) := ⟨_, rfl⟩
                  obtain ⟨T26, X26, e26, K26⟩ : ∃ T' : State, Stand p l e ({ frames := 0, cells := 0, slots := 0, locals := 0 } : Room) s m #[(.int p0)] below meth c T' [] 0 0 ∧ T'.heap = h0 ∧ Own.To p e below B0 T' (mkF m 41 #[vi p0] [(.int x25)]) := by
                    by_cases hc22 : (57 : Int32) < p0
                    · have K23 : Own.To p e below B0 s₁ (mkF m 41 #[vi p0] [(.int 0)]) := fun t k => K21 t (by
                        refine Own.icmpYes X0 hx 40 (D d17_33) (tlt hc22).2.2.1 (by decide) (by decide) ?_
                        refine Own.iconst X0 hx 0 (D d17_40) rfl ?_
                        exact k)
                      exact ⟨s₁, X0, e0, fun t k => K23 t (by rw [hx25, if_pos hc22] at k; exact k)⟩
                    · have K24 : Own.To p e below B0 s₁ (mkF m 41 #[vi p0] [(.int 1)]) := fun t k => K21 t (by
                        refine Own.icmpNo X0 hx (D d17_33) (flt hc22).2.2.1 ?_
                        refine Own.iconst X0 hx 1 (D d17_36) rfl ?_
                        refine Own.goto X0 hx 41 (D d17_37) (by decide) (by decide) ?_
                        exact k)
                      exact ⟨s₁, X0, e0, fun t k => K24 t (by rw [hx25, if_neg hc22] at k; exact k)⟩
                  exact ⟨T26, X26, e26, fun t k => K26 t (by subst hx25; rw [hx27, if_neg hc19] at k; exact k)⟩
              exact ⟨T28, X28, e28, fun t k => K28 t (by subst hx27; rw [hx30, if_pos hc17] at k; exact k)⟩
            · have K29 : Own.To p e below B0 s₁ (mkF m 41 #[vi p0] [(.int 1)]) := fun t k => K16 t (by
                refine Own.icmpYes X0 hx 36 (D d17_21) (flt hc17).2.2.2 (by decide) (by decide) ?_
                refine Own.iconst X0 hx 1 (D d17_36) rfl ?_
                refine Own.goto X0 hx 41 (D d17_37) (by decide) (by decide) ?_
                exact k)
              exact ⟨s₁, X0, e0, fun t k => K29 t (by rw [hx30, if_neg hc17] at k; exact k)⟩
          exact ⟨T31, X31, e31, fun t k => K31 t (by subst hx30; rw [hx32, if_neg hc4] at k; exact k)⟩
      exact ⟨T33, X33, e33, fun t k => K33 t (by subst hx32; rw [hx70, if_pos hc2] at k; exact k)⟩
    · have K34 : Own.To p e below B0 s₁ (mkF m 9 #[vi p0] [(.int 90), (.int p0)]) := fun t k => K1 t (by
        refine Own.icmpNo X0 hx (D d17_3) (flt hc2).1 ?_
        refine Own.iloadN X0 hx (D d17_6) rfl ?_
        refine Own.bipush X0 hx 90 (D d17_7) rfl ?_
        exact k)
      obtain ⟨x68, hx68⟩ : ∃ z : Int32, z = (if (90 : Int32) < p0 then (if p0 < (97 : Int32) then (if p0 < (48 : Int32) then (0 : Int32) else (if (57 : Int32) < p0 then (0 : Int32) else (1 : Int32))) else (if (122 : Int32) < p0 then (if p0 < (48 : Int32) then (0 : Int32) else (if (57 : Int32) < p0 then (0 : Int32) else (1 : Int32))) else (1 : Int32))) else (1 : Int32)) := ⟨_, rfl⟩
      obtain ⟨T69, X69, e69, K69⟩ : ∃ T' : State, Stand p l e ({ frames := 0, cells := 0, slots := 0, locals := 0 } : Room) s m #[(.int p0)] below meth c T' [] 0 0 ∧ T'.heap = h0 ∧ Own.To p e below B0 T' (mkF m 41 #[vi p0] [(.int x68)]) := by
        by_cases hc35 : (90 : Int32) < p0
        · have K36 : Own.To p e below B0 s₁ (mkF m 15 #[vi p0] [(.int 97), (.int p0)]) := fun t k => K34 t (by
            refine Own.icmpNo X0 hx (D d17_9) (tlt hc35).2.2.2 ?_
            refine Own.iloadN X0 hx (D d17_12) rfl ?_
            refine Own.bipush X0 hx 97 (D d17_13) rfl ?_
            exact k)
          obtain ⟨x65, hx65⟩ : ∃ z : Int32, z = (if p0 < (97 : Int32) then (if p0 < (48 : Int32) then (0 : Int32) else (if (57 : Int32) < p0 then (0 : Int32) else (1 : Int32))) else (if (122 : Int32) < p0 then (if p0 < (48 : Int32) then (0 : Int32) else (if (57 : Int32) < p0 then (0 : Int32) else (1 : Int32))) else (1 : Int32))) := ⟨_, rfl⟩
          obtain ⟨T66, X66, e66, K66⟩ : ∃ T' : State, Stand p l e ({ frames := 0, cells := 0, slots := 0, locals := 0 } : Room) s m #[(.int p0)] below meth c T' [] 0 0 ∧ T'.heap = h0 ∧ Own.To p e below B0 T' (mkF m 41 #[vi p0] [(.int x65)]) := by
            by_cases hc37 : p0 < (97 : Int32)
            · have K38 : Own.To p e below B0 s₁ (mkF m 27 #[vi p0] [(.int 48), (.int p0)]) := fun t k => K36 t (by
                refine Own.icmpYes X0 hx 24 (D d17_15) (tlt hc37).1 (by decide) (by decide) ?_
                refine Own.iloadN X0 hx (D d17_24) rfl ?_
                refine Own.bipush X0 hx 48 (D d17_25) rfl ?_
                exact k)
              obtain ⟨x47, hx47⟩ : ∃ z : Int32, z = (if p0 < (48 : Int32) then (0 : Int32) else (if (57 : Int32) < p0 then (0 : Int32) else (1 : Int32))) := ⟨_, rfl⟩
              obtain ⟨T48, X48, e48, K48⟩ : ∃ T' : State, Stand p l e ({ frames := 0, cells := 0, slots := 0, locals := 0 } : Room) s m #[(.int p0)] below meth c T' [] 0 0 ∧ T'.heap = h0 ∧ Own.To p e below B0 T' (mkF m 41 #[vi p0] [(.int x47)]) := by
                by_cases hc39 : p0 < (48 : Int32)
                · have K40 : Own.To p e below B0 s₁ (mkF m 41 #[vi p0] [(.int 0)]) := fun t k => K38 t (by
                    refine Own.icmpYes X0 hx 40 (D d17_27) (tlt hc39).1 (by decide) (by decide) ?_
                    refine Own.iconst X0 hx 0 (D d17_40) rfl ?_
                    exact k)
                  exact ⟨s₁, X0, e0, fun t k => K40 t (by rw [hx47, if_pos hc39] at k; exact k)⟩
                · have K41 : Own.To p e below B0 s₁ (mkF m 33 #[vi p0] [(.int 57), (.int p0)]) := fun t k => K38 t (by
                    refine Own.icmpNo X0 hx (D d17_27) (flt hc39).1 ?_
                    refine Own.iloadN X0 hx (D d17_30) rfl ?_
                    refine Own.bipush X0 hx 57 (D d17_31) rfl ?_
                    exact k)
                  obtain ⟨x45, hx45⟩ : ∃ z : Int32, z = (if (57 : Int32) < p0 then (0 : Int32) else (1 : Int32)) := ⟨_, rfl⟩
                  obtain ⟨T46, X46, e46, K46⟩ : ∃ T' : State, Stand p l e ({ frames := 0, cells := 0, slots := 0, locals := 0 } : Room) s m #[(.int p0)] below meth c T' [] 0 0 ∧ T'.heap = h0 ∧ Own.To p e below B0 T' (mkF m 41 #[vi p0] [(.int x45)]) := by
                    by_cases hc42 : (57 : Int32) < p0
                    · have K43 : Own.To p e below B0 s₁ (mkF m 41 #[vi p0] [(.int 0)]) := fun t k => K41 t (by
                        refine Own.icmpYes X0 hx 40 (D d17_33) (tlt hc42).2.2.1 (by decide) (by decide) ?_
                        refine Own.iconst X0 hx 0 (D d17_40) rfl ?_
                        exact k)
                      exact ⟨s₁, X0, e0, fun t k => K43 t (by rw [hx45, if_pos hc42] at k; exact k)⟩
                    · have K44 : Own.To p e below B0 s₁ (mkF m 41 #[vi p0] [(.int 1)]) := fun t k => K41 t (by
                        refine Own.icmpNo X0 hx (D d17_33) (flt hc42).2.2.1 ?_
                        refine Own.iconst X0 hx 1 (D d17_36) rfl ?_
                        refine Own.goto X0 hx 41 (D d17_37) (by decide) (by decide) ?_
                        exact k)
                      exact ⟨s₁, X0, e0, fun t k => K44 t (by rw [hx45, if_neg hc42] at k; exact k)⟩
                  exact ⟨T46, X46, e46, fun t k => K46 t (by subst hx45; rw [hx47, if_neg hc39] at k; exact k)⟩
              exact ⟨T48, X48, e48, fun t k => K48 t (by subst hx47; rw [hx65, if_pos hc37] at k; exact k)⟩
            · have K49 : Own.To p e below B0 s₁ (mkF m 21 #[vi p0] [(.int 122), (.int p0)]) := fun t k => K36 t (by
                refine Own.icmpNo X0 hx (D d17_15) (flt hc37).1 ?_
                refine Own.iloadN X0 hx (D d17_18) rfl ?_
                refine Own.bipush X0 hx 122 (D d17_19) rfl ?_
                exact k)
              obtain ⟨x63, hx63⟩ : ∃ z : Int32, z = (if (122 : Int32) < p0 then (if p0 < (48 : Int32) then (0 : Int32) else (if (57 : Int32) < p0 then (0 : Int32) else (1 : Int32))) else (1 : Int32)) := ⟨_, rfl⟩
              obtain ⟨T64, X64, e64, K64⟩ : ∃ T' : State, Stand p l e ({ frames := 0, cells := 0, slots := 0, locals := 0 } : Room) s m #[(.int p0)] below meth c T' [] 0 0 ∧ T'.heap = h0 ∧ Own.To p e below B0 T' (mkF m 41 #[vi p0] [(.int x63)]) := by
                by_cases hc50 : (122 : Int32) < p0
                · have K51 : Own.To p e below B0 s₁ (mkF m 27 #[vi p0] [(.int 48), (.int p0)]) := fun t k => K49 t (by
                    refine Own.icmpNo X0 hx (D d17_21) (tlt hc50).2.2.2 ?_
                    refine Own.iloadN X0 hx (D d17_24) rfl ?_
                    refine Own.bipush X0 hx 48 (D d17_25) rfl ?_
                    exact k)
                  obtain ⟨x60, hx60⟩ : ∃ z : Int32, z = (if p0 < (48 : Int32) then (0 : Int32) else (if (57 : Int32) < p0 then (0 : Int32) else (1 : Int32))) := ⟨_, rfl⟩
                  obtain ⟨T61, X61, e61, K61⟩ : ∃ T' : State, Stand p l e ({ frames := 0, cells := 0, slots := 0, locals := 0 } : Room) s m #[(.int p0)] below meth c T' [] 0 0 ∧ T'.heap = h0 ∧ Own.To p e below B0 T' (mkF m 41 #[vi p0] [(.int x60)]) := by
                    by_cases hc52 : p0 < (48 : Int32)
                    · have K53 : Own.To p e below B0 s₁ (mkF m 41 #[vi p0] [(.int 0)]) := fun t k => K51 t (by
                        refine Own.icmpYes X0 hx 40 (D d17_27) (tlt hc52).1 (by decide) (by decide) ?_
                        refine Own.iconst X0 hx 0 (D d17_40) rfl ?_
                        exact k)
                      exact ⟨s₁, X0, e0, fun t k => K53 t (by rw [hx60, if_pos hc52] at k; exact k)⟩
                    · have K54 : Own.To p e below B0 s₁ (mkF m 33 #[vi p0] [(.int 57), (.int p0)]) := fun t k => K51 t (by
                        refine Own.icmpNo X0 hx (D d17_27) (flt hc52).1 ?_
                        refine Own.iloadN X0 hx (D d17_30) rfl ?_
                        refine Own.bipush X0 hx 57 (D d17_31) rfl ?_
                        exact k)
                      obtain ⟨x58, hx58⟩ : ∃ z : Int32, z = (if (57 : Int32) < p0 then (0 : Int32) else (1 : Int32)) := ⟨_, rfl⟩
                      obtain ⟨T59, X59, e59, K59⟩ : ∃ T' : State, Stand p l e ({ frames := 0, cells := 0, slots := 0, locals := 0 } : Room) s m #[(.int p0)] below meth c T' [] 0 0 ∧ T'.heap = h0 ∧ Own.To p e below B0 T' (mkF m 41 #[vi p0] [(.int x58)]) := by
                        by_cases hc55 : (57 : Int32) < p0
                        · have K56 : Own.To p e below B0 s₁ (mkF m 41 #[vi p0] [(.int 0)]) := fun t k => K54 t (by
                            refine Own.icmpYes X0 hx 40 (D d17_33) (tlt hc55).2.2.1 (by decide) (by decide) ?_
                            refine Own.iconst X0 hx 0 (D d17_40) rfl ?_
                            exact k)
                          exact ⟨s₁, X0, e0, fun t k => K56 t (by rw [hx58, if_pos hc55] at k; exact k)⟩
                        · have K57 : Own.To p e below B0 s₁ (mkF m 41 #[vi p0] [(.int 1)]) := fun t k => K54 t (by
                            refine Own.icmpNo X0 hx (D d17_33) (flt hc55).2.2.1 ?_
                            refine Own.iconst X0 hx 1 (D d17_36) rfl ?_
                            refine Own.goto X0 hx 41 (D d17_37) (by decide) (by decide) ?_
                            exact k)
                          exact ⟨s₁, X0, e0, fun t k => K57 t (by rw [hx58, if_neg hc55] at k; exact k)⟩
                      exact ⟨T59, X59, e59, fun t k => K59 t (by subst hx58; rw [hx60, if_neg hc52] at k; exact k)⟩
                  exact ⟨T61, X61, e61, fun t k => K61 t (by subst hx60; rw [hx63, if_pos hc50] at k; exact k)⟩
                · have K62 : Own.To p e below B0 s₁ (mkF m 41 #[vi p0] [(.int 1)]) := fun t k => K49 t (by
                    refine Own.icmpYes X0 hx 36 (D d17_21) (flt hc50).2.2.2 (by decide) (by decide) ?_
                    refine Own.iconst X0 hx 1 (D d17_36) rfl ?_
                    refine Own.goto X0 hx 41 (D d17_37) (by decide) (by decide) ?_
                    exact k)
                  exact ⟨s₁, X0, e0, fun t k => K62 t (by rw [hx63, if_neg hc50] at k; exact k)⟩
              exact ⟨T64, X64, e64, fun t k => K64 t (by subst hx63; rw [hx65, if_neg hc37] at k; exact k)⟩
          exact ⟨T66, X66, e66, fun t k => K66 t (by subst hx65; rw [hx68, if_pos hc35] at k; exact k)⟩
        · have K67 : Own.To p e below B0 s₁ (mkF m 41 #[vi p0] [(.int 1)]) := fun t k => K34 t (by
            refine Own.icmpYes X0 hx 36 (D d17_9) (flt hc35).2.2.2 (by decide) (by decide) ?_
            refine Own.iconst X0 hx 1 (D d17_36) rfl ?_
            refine Own.goto X0 hx 41 (D d17_37) (by decide) (by decide) ?_
            exact k)
          exact ⟨s₁, X0, e0, fun t k => K67 t (by rw [hx68, if_neg hc35] at k; exact k)⟩
      exact ⟨T69, X69, e69, fun t k => K69 t (by subst hx68; rw [hx70, if_neg hc2] at k; exact k)⟩
  exact Own.finN X71 hx (BodyLoose.notSynchronized Bd) Bd.returns (by simp) (D d17_41) K71 (by decide) (by decide) ⟨by subst hx70; unfold F17; rfl, rfl, e71⟩

theorem d27_0 : decode J10 0 = .ok (.iload_n 0, 1) := by decide +kernel
theorem d27_1 : decode J10 1 = .ok (.bipush 33, 2) := by decide +kernel
theorem d27_3 : decode J10 3 = .ok (.if_icmp .eq 51, 3) := by decide +kernel
theorem d27_6 : decode J10 6 = .ok (.iload_n 0, 1) := by decide +kernel
theorem d27_7 : decode J10 7 = .ok (.bipush 35, 2) := by decide +kernel
theorem d27_9 : decode J10 9 = .ok (.if_icmp .eq 45, 3) := by decide +kernel
theorem d27_12 : decode J10 12 = .ok (.iload_n 0, 1) := by decide +kernel
theorem d27_13 : decode J10 13 = .ok (.bipush 36, 2) := by decide +kernel
theorem d27_15 : decode J10 15 = .ok (.if_icmp .eq 39, 3) := by decide +kernel
theorem d27_18 : decode J10 18 = .ok (.iload_n 0, 1) := by decide +kernel
theorem d27_19 : decode J10 19 = .ok (.bipush 38, 2) := by decide +kernel
theorem d27_21 : decode J10 21 = .ok (.if_icmp .eq 33, 3) := by decide +kernel
theorem d27_24 : decode J10 24 = .ok (.iload_n 0, 1) := by decide +kernel
theorem d27_25 : decode J10 25 = .ok (.bipush 94, 2) := by decide +kernel
theorem d27_27 : decode J10 27 = .ok (.if_icmp .eq 27, 3) := by decide +kernel
theorem d27_30 : decode J10 30 = .ok (.iload_n 0, 1) := by decide +kernel
theorem d27_31 : decode J10 31 = .ok (.bipush 95, 2) := by decide +kernel
theorem d27_33 : decode J10 33 = .ok (.if_icmp .eq 21, 3) := by decide +kernel
theorem d27_36 : decode J10 36 = .ok (.iload_n 0, 1) := by decide +kernel
theorem d27_37 : decode J10 37 = .ok (.bipush 46, 2) := by decide +kernel
theorem d27_39 : decode J10 39 = .ok (.if_icmp .eq 15, 3) := by decide +kernel
theorem d27_42 : decode J10 42 = .ok (.iload_n 0, 1) := by decide +kernel
theorem d27_43 : decode J10 43 = .ok (.bipush 43, 2) := by decide +kernel
theorem d27_45 : decode J10 45 = .ok (.if_icmp .eq 9, 3) := by decide +kernel
theorem d27_48 : decode J10 48 = .ok (.iload_n 0, 1) := by decide +kernel
theorem d27_49 : decode J10 49 = .ok (.bipush 45, 2) := by decide +kernel
theorem d27_51 : decode J10 51 = .ok (.if_icmp .ne 7, 3) := by decide +kernel
theorem d27_54 : decode J10 54 = .ok (.iconst 1, 1) := by decide +kernel
theorem d27_55 : decode J10 55 = .ok (.goto 4, 3) := by decide +kernel
theorem d27_58 : decode J10 58 = .ok (.iconst 0, 1) := by decide +kernel
theorem d27_59 : decode J10 59 = .ok (.ireturn, 1) := by decide +kernel
theorem ef_27 (m : MethodId) (p0 : Int32) : entryFrame m #[(.int p0)] 1 = mkF m 0 #[.val (.int p0)] [] := by first | (simp [entryFrame, mkF, argsToLocals, Value.category]; done) | rfl
def F27 (p0 : Int32) : Int32 := (nar .boolean (if p0 = (33 : Int32) then (1 : Int32) else (if p0 = (35 : Int32) then (1 : Int32) else (if p0 = (36 : Int32) then (1 : Int32) else (if p0 = (38 : Int32) then (1 : Int32) else (if p0 = (94 : Int32) then (1 : Int32) else (if p0 = (95 : Int32) then (1 : Int32) else (if p0 = (46 : Int32) then (1 : Int32) else (if p0 = (43 : Int32) then (1 : Int32) else (if p0 = (45 : Int32) then (1 : Int32) else (0 : Int32)))))))))))
set_option maxRecDepth 65536 in
set_option maxHeartbeats 40000000 in
theorem c27 (l : Launch) (Z : State) (a0 : Array Value) (hw : ∀ d ∈ tables_1, d.before a0 Z = true) (p0 : Int32) (h0 : Heap) : Own.Con l Z (⟨"com/example/pliktflow/pliktflow/deposit/MediaTypeIsWellFormedPinLaw", "isNameMark", "(C)Z"⟩ : MethodName) method_10_code 1 (some .boolean) ({ frames := 0, cells := 0, slots := 0, locals := 0 } : Room) #[(.int p0)] h0 (Own.Pure (.int (F27 p0)) h0) := by
  intro ws
  refine MetFree.of_bodySF (plainFor_of_name pn_1) hisR ?_
  intro p e s m args below meth c s₁ Bd hml0 hP hK
  obtain ⟨rfl, hZ, hh⟩ := hP
  have hx := Bd.exec
  have hby := Bd.bytes
  have D := fun {n : Nat} {i} (d : decode method_10_code n = .ok i) => hb hby d
  have hml : c.maxLocals = 1 := hml0
  have hown : s.vm.findClass "com/example/pliktflow/pliktflow/deposit/MediaTypeIsWellFormedPinLaw" = some m.cls := findClass_of_methodNamed Bd.named
  have hnm := (name_of_methodNamed Bd.named Bd.method).1
  have X0 : Stand p l e ({ frames := 0, cells := 0, slots := 0, locals := 0 } : Room) s m #[(.int p0)] below meth c s₁ [] 0 0 := Stand.of_body Bd
  have e0 : s₁.heap = h0 := by rw [← hh, Bd.state]; rfl
  have K0 : ∀ t, Steps p.tables e below (s₁.setTop (mkF m 0 #[vi p0] [])) t → Steps p.tables e below (s₁.setTop (entryFrame m #[(.int p0)] 1)) t := fun t k => castTop (ef_27 m p0) k
  generalize s₁.setTop (entryFrame m #[(.int p0)] 1) = B0 at K0 ⊢
  show Own.Fin p e below B0 s (({ frames := 0, cells := 0, slots := 0, locals := 0 } : Room)).cells (({ frames := 0, cells := 0, slots := 0, locals := 0 } : Room)).slots (Own.Pure (.int (F27 p0)) h0)
  have K1 : Own.To p e below B0 s₁ (mkF m 3 #[vi p0] [(.int 33), (.int p0)]) := fun t k => K0 t (by
    refine Own.iloadN X0 hx (D d27_0) rfl ?_
    refine Own.bipush X0 hx 33 (D d27_1) rfl ?_
    exact k)
  obtain ⟨x45, hx45⟩ : ∃ z : Int32, z = (if p0 = (33 : Int32) then (1 : Int32) else (if p0 = (35 : Int32) then (1 : Int32) else (if p0 = (36 : Int32) then (1 : Int32) else (if p0 = (38 : Int32) then (1 : Int32) else (if p0 = (94 : Int32) then (1 : Int32) else (if p0 = (95 : Int32) then (1 : Int32) else (if p0 = (46 : Int32) then (1 : Int32) else (if p0 = (43 : Int32) then (1 : Int32) else (if p0 = (45 : Int32) then (1 : Int32) else (0 : Int32)))))))))) := ⟨_, rfl⟩
  obtain ⟨T46, X46, e46, K46⟩ : ∃ T' : State, Stand p l e ({ frames := 0, cells := 0, slots := 0, locals := 0 } : Room) s m #[(.int p0)] below meth c T' [] 0 0 ∧ T'.heap = h0 ∧ Own.To p e below B0 T' (mkF m 59 #[vi p0] [(.int x45)]) := by
    by_cases hc2 : p0 = (33 : Int32)
    · have K3 : Own.To p e below B0 s₁ (mkF m 59 #[vi p0] [(.int 1)]) := fun t k => K1 t (by
        refine Own.icmpYes X0 hx 54 (D d27_3) (teq hc2).1 (by decide) (by decide) ?_
        refine Own.iconst X0 hx 1 (D d27_54) rfl ?_
        refine Own.goto X0 hx 59 (D d27_55) (by decide) (by decide) ?_
        exact k)
      exact ⟨s₁, X0, e0, fun t k => K3 t (by rw [hx45, if_pos hc2] at k; exact k)⟩
    · have K4 : Own.To p e below B0 s₁ (mkF m 9 #[vi p0] [(.int 35), (.int p0)]) := fun t k => K1 t (by
        refine Own.icmpNo X0 hx (D d27_3) (feq hc2).1 ?_
        refine Own.iloadN X0 hx (D d27_6) rfl ?_
        refine Own.bipush X0 hx 35 (D d27_7) rfl ?_
        exact k)
      obtain ⟨x43, hx43⟩ : ∃ z : Int32, z = (if p0 = (35 : Int32) then (1 : Int32) else (if p0 = (36 : Int32) then (1 : Int32) else (if p0 = (38 : Int32) then (1 : Int32) else (if p0 = (94 : Int32) then (1 : Int32) else (if p0 = (95 : Int32) then (1 : Int32) else (if p0 = (46 : Int32) then (1 : Int32) else (if p0 = (43 : Int32) then (1 : Int32) else (if p0 = (45 : Int32) then (1 : Int32) else (0 : Int32))))))))) := ⟨_, rfl⟩
      obtain ⟨T44, X44, e44, K44⟩ : ∃ T' : State, Stand p l e ({ frames := 0, cells := 0, slots := 0, locals := 0 } : Room) s m #[(.int p0)] below meth c T' [] 0 0 ∧ T'.heap = h0 ∧ Own.To p e below B0 T' (mkF m 59 #[vi p0] [(.int x43)]) := by
        by_cases hc5 : p0 = (35 : Int32)
        · have K6 : Own.To p e below B0 s₁ (mkF m 59 #[vi p0] [(.int 1)]) := fun t k => K4 t (by
            refine Own.icmpYes X0 hx 54 (D d27_9) (teq hc5).1 (by decide) (by decide) ?_
            refine Own.iconst X0 hx 1 (D d27_54) rfl ?_
            refine Own.goto X0 hx 59 (D d27_55) (by decide) (by decide) ?_
            exact k)
          exact ⟨s₁, X0, e0, fun t k => K6 t (by rw [hx43, if_pos hc5] at k; exact k)⟩
        · have K7 : Own.To p e below B0 s₁ (mkF m 15 #[vi p0] [(.int 36), (.int p0)]) := fun t k => K4 t (by
            refine Own.icmpNo X0 hx (D d27_9) (feq hc5).1 ?_
            refine Own.iloadN X0 hx (D d27_12) rfl ?_
            refine Own.bipush X0 hx 36 (D d27_13) rfl ?_
            exact k)
          obtain ⟨x41, hx41⟩ : ∃ z : Int32, z = (if p0 = (36 : Int32) then (1 : Int32) else (if p0 = (38 : Int32) then (1 : Int32) else (if p0 = (94 : Int32) then (1 : Int32) else (if p0 = (95 : Int32) then (1 : Int32) else (if p0 = (46 : Int32) then (1 : Int32) else (if p0 = (43 : Int32) then (1 : Int32) else (if p0 = (45 : Int32) then (1 : Int32) else (0 : Int32)))))))) := ⟨_, rfl⟩
          obtain ⟨T42, X42, e42, K42⟩ : ∃ T' : State, Stand p l e ({ frames := 0, cells := 0, slots := 0, locals := 0 } : Room) s m #[(.int p0)] below meth c T' [] 0 0 ∧ T'.heap = h0 ∧ Own.To p e below B0 T' (mkF m 59 #[vi p0] [(.int x41)]) := by
            by_cases hc8 : p0 = (36 : Int32)
            · have K9 : Own.To p e below B0 s₁ (mkF m 59 #[vi p0] [(.int 1)]) := fun t k => K7 t (by
                refine Own.icmpYes X0 hx 54 (D d27_15) (teq hc8).1 (by decide) (by decide) ?_
                refine Own.iconst X0 hx 1 (D d27_54) rfl ?_
                refine Own.goto X0 hx 59 (D d27_55) (by decide) (by decide) ?_
                exact k)
              exact ⟨s₁, X0, e0, fun t k => K9 t (by rw [hx41, if_pos hc8] at k; exact k)⟩
            · have K10 : Own.To p e below B0 s₁ (mkF m 21 #[vi p0] [(.int 38), (.int p0)]) := fun t k => K7 t (by
                refine Own.icmpNo X0 hx (D d27_15) (feq hc8).1 ?_
                refine Own.iloadN X0 hx (D d27_18) rfl ?_
                refine Own.bipush X0 hx 38 (D d27_19) rfl ?_
                exact k)
              obtain ⟨x39, hx39⟩ : ∃ z : Int32, z = (if p0 = (38 : Int32) then (1 : Int32) else (if p0 = (94 : Int32) then (1 : Int32) else (if p0 = (95 : Int32) then (1 : Int32) else (if p0 = (46 : Int32) then (1 : Int32) else (if p0 = (43 : Int32) then (1 : Int32) else (if p0 = (45 : Int32) then (1 : Int32) else (0 : Int32))))))) := ⟨_, rfl⟩
              obtain ⟨T40, X40, e40, K40⟩ : ∃ T' : State, Stand p l e ({ frames := 0, cells := 0, slots := 0, locals := 0 } : Room) s m #[(.int p0)] below meth c T' [] 0 0 ∧ T'.heap = h0 ∧ Own.To p e below B0 T' (mkF m 59 #[vi p0] [(.int x39)]) := by
                by_cases hc11 : p0 = (38 : Int32)
                · have K12 : Own.To p e below B0 s₁ (mkF m 59 #[vi p0] [(.int 1)]) := fun t k => K10 t (by
                    refine Own.icmpYes X0 hx 54 (D d27_21) (teq hc11).1 (by decide) (by decide) ?_
                    refine Own.iconst X0 hx 1 (D d27_54) rfl ?_
                    refine Own.goto X0 hx 59 (D d27_55) (by decide) (by decide) ?_
                    exact k)
                  exact ⟨s₁, X0, e0, fun t k => K12 t (by rw [hx39, if_pos hc11] at k; exact k)⟩
                · have K13 : Own.To p e below B0 s₁ (mkF m 27 #[vi p0] [(.int 94), (.int p0)]) := fun t k => K10 t (by
                    refine Own.icmpNo X0 hx (D d27_21) (feq hc11).1 ?_
                    refine Own.iloadN X0 hx (D d27_24) rfl ?_
                    refine Own.bipush X0 hx 94 (D d27_25) rfl ?_
                    exact k)
                  obtain ⟨x37, hx37⟩ : ∃ z : Int32, z = (if p0 = (94 : Int32) then (1 : Int32) else (if p0 = (95 : Int32) then (1 : Int32) else (if p0 = (46 : Int32) then (1 : Int32) else (if p0 = (43 : Int32) then (1 : Int32) else (if p0 = (45 : Int32) then (1 : Int32) else (0 : Int32)))))) := ⟨_, rfl⟩
                  obtain ⟨T38, X38, e38, K38⟩ : ∃ T' : State, Stand p l e ({ frames := 0, cells := 0, slots := 0, locals := 0 } : Room) s m #[(.int p0)] below meth c T' [] 0 0 ∧ T'.heap = h0 ∧ Own.To p e below B0 T' (mkF m 59 #[vi p0] [(.int x37)]) := by
                    by_cases hc14 : p0 = (94 : Int32)
                    · have K15 : Own.To p e below B0 s₁ (mkF m 59 #[vi p0] [(.int 1)]) := fun t k => K13 t (by
                        refine Own.icmpYes X0 hx 54 (D d27_27) (teq hc14).1 (by decide) (by decide) ?_
                        refine Own.iconst X0 hx 1 (D d27_54) rfl ?_
                        refine Own.goto X0 hx 59 (D d27_55) (by decide) (by decide) ?_
                        exact k)
                      exact ⟨s₁, X0, e0, fun t k => K15 t (by rw [hx37, if_pos hc14] at k; exact k)⟩
                    · have K16 : Own.To p e below B0 s₁ (mkF m 33 #[vi p0] [(.int 95), (.int p0)]) := fun t k => K13 t (by
                        refine Own.icmpNo X0 hx (D d27_27) (feq hc14).1 ?_
                        refine Own.iloadN X0 hx (D d27_30) rfl ?_
                        refine Own.bipush X0 hx 95 (D d27_31) rfl ?_
                        exact k)
                      obtain ⟨x35, hx35⟩ : ∃ z : Int32, z = (if p0 = (95 : Int32) then (1 : Int32) else (if p0 = (46 : Int32) then (1 : Int32) else (if p0 = (43 : Int32) then (1 : Int32) else (if p0 = (45 : Int32) then (1 : Int32) else (0 : Int32))))) := ⟨_, rfl⟩
                      obtain ⟨T36, X36, e36, K36⟩ : ∃ T' : State, Stand p l e ({ frames := 0, cells := 0, slots := 0, locals := 0 } : Room) s m #[(.int p0)] below meth c T' [] 0 0 ∧ T'.heap = h0 ∧ Own.To p e below B0 T' (mkF m 59 #[vi p0] [(.int x35)]) := by
                        by_cases hc17 : p0 = (95 : Int32)
                        · have K18 : Own.To p e below B0 s₁ (mkF m 59 #[vi p0] [(.int 1)]) := fun t k => K16 t (by
                            refine Own.icmpYes X0 hx 54 (D d27_33) (teq hc17).1 (by decide) (by decide) ?_
                            refine Own.iconst X0 hx 1 (D d27_54) rfl ?_
                            refine Own.goto X0 hx 59 (D d27_55) (by decide) (by decide) ?_
                            exact k)
                          exact ⟨s₁, X0, e0, fun t k => K18 t (by rw [hx35, if_pos hc17] at k; exact k)⟩
                        · have K19 : Own.To p e below B0 s₁ (mkF m 39 #[vi p0] [(.int 46), (.int p0)]) := fun t k => K16 t (by
                            refine Own.icmpNo X0 hx (D d27_33) (feq hc17).1 ?_
                            refine Own.iloadN X0 hx (D d27_36) rfl ?_
                            refine Own.bipush X0 hx 46 (D d27_37) rfl ?_
                            exact k)
                          obtain ⟨x33, hx33⟩ : ∃ z : Int32, z = (if p0 = (46 : Int32) then (1 : Int32) else (if p0 = (43 : Int32) then (1 : Int32) else (if p0 = (45 : Int32) then (1 : Int32) else (0 : Int32)))) := ⟨_, rfl⟩
                          obtain ⟨T34, X34, e34, K34⟩ : ∃ T' : State, Stand p l e ({ frames := 0, cells := 0, slots := 0, locals := 0 } : Room) s m #[(.int p0)] below meth c T' [] 0 0 ∧ T'.heap = h0 ∧ Own.To p e below B0 T' (mkF m 59 #[vi p0] [(.int x33)]) := by
                            by_cases hc20 : p0 = (46 : Int32)
                            · have K21 : Own.To p e below B0 s₁ (mkF m 59 #[vi p0] [(.int 1)]) := fun t k => K19 t (by
                                refine Own.icmpYes X0 hx 54 (D d27_39) (teq hc20).1 (by decide) (by decide) ?_
                                refine Own.iconst X0 hx 1 (D d27_54) rfl ?_
                                refine Own.goto X0 hx 59 (D d27_55) (by decide) (by decide) ?_
                                exact k)
                              exact ⟨s₁, X0, e0, fun t k => K21 t (by rw [hx33, if_pos hc20] at k; exact k)⟩
                            · have K22 : Own.To p e below B0 s₁ (mkF m 45 #[vi p0] [(.int 43), (.int p0)]) := fun t k => K19 t (by
                                refine Own.icmpNo X0 hx (D d27_39) (feq hc20).1 ?_
                                refine Own.iloadN X0 hx (D d27_42) rfl ?_
                                refine Own.bipush X0 hx 43 (D d27_43) rfl ?_
                                exact k)
                              obtain ⟨x31, hx31⟩ : ∃ z : Int32, z = (if p0 = (43 : Int32) then (1 : Int32) else (if p0 = (45 : Int32) then (1 : Int32) else (0 : Int32))) := ⟨_, rfl⟩
                              obtain ⟨T32, X32, e32, K32⟩ : ∃ T' : State, Stand p l e ({ frames := 0, cells := 0, slots := 0, locals := 0 } : Room) s m #[(.int p0)] below meth c T' [] 0 0 ∧ T'.heap = h0 ∧ Own.To p e below B0 T' (mkF m 59 #[vi p0] [(.int x31)]) := by
                                by_cases hc23 : p0 = (43 : Int32)
                                · have K24 : Own.To p e below B0 s₁ (mkF m 59 #[vi p0] [(.int 1)]) := fun t k => K22 t (by
                                    refine Own.icmpYes X0 hx 54 (D d27_45) (teq hc23).1 (by decide) (by decide) ?_
                                    refine Own.iconst X0 hx 1 (D d27_54) rfl ?_
                                    refine Own.goto X0 hx 59 (D d27_55) (by decide) (by decide) ?_
                                    exact k)
                                  exact ⟨s₁, X0, e0, fun t k => K24 t (by rw [hx31, if_pos hc23] at k; exact k)⟩
                                · have K25 : Own.To p e below B0 s₁ (mkF m 51 #[vi p0] [(.int 45), (.int p0)]) := fun t k => K22 t (by
                                    refine Own.icmpNo X0 hx (D d27_45) (feq hc23).1 ?_
                                    refine Own.iloadN X0 hx (D d27_48) rfl ?_
                                    refine Own.bipush X0 hx 45 (D d27_49) rfl ?_
                                    exact k)
                                  obtain ⟨x29, hx29⟩ : ∃ z : Int32, z = (if p0 = (45 : Int32) then (1 : Int32) else (0 : Int32)) := ⟨_, rfl⟩
                                  obtain ⟨T30, X30, e30, K30⟩ : ∃ T' : State, Stand p l e ({ frames := 0, cells := 0, slots := 0, locals := 0 } : Room) s m #[(.int p0)] below meth c T' [] 0 0 ∧ T'.heap = h0 ∧ Own.To p e below B0 T' (mkF m 59 #[vi p0] [(.int x29)]) := by
                                    by_cases hc26 : p0 = (45 : Int32)
                                    · have K27 : Own.To p e below B0 s₁ (mkF m 59 #[vi p0] [(.int 1)]) := fun t k => K25 t (by
                                        refine Own.icmpNo X0 hx (D d27_51) (teq hc26).2 ?_
                                        refine Own.iconst X0 hx 1 (D d27_54) rfl ?_
                                        refine Own.goto X0 hx 59 (D d27_55) (by decide) (by decide) ?_
                                        exact k)
                                      exact ⟨s₁, X0, e0, fun t k => K27 t (by rw [hx29, if_pos hc26] at k; exact k)⟩
                                    · have K28 : Own.To p e below B0 s₁ (mkF m 59 #[vi p0] [(.int 0)]) := fun t k => K25 t (by
                                        refine Own.icmpYes X0 hx 58 (D d27_51) (feq hc26).2 (by decide) (by decide) ?_
                                        refine Own.iconst X0 hx 0 (D d27_58) rfl ?_
                                        exact k)
                                      exact ⟨s₁, X0, e0, fun t k => K28 t (by rw [hx29, if_neg hc26] at k; exact k)⟩
                                  exact ⟨T30, X30, e30, fun t k => K30 t (by subst hx29; rw [hx31, if_neg hc23] at k; exact k)⟩
                              exact ⟨T32, X32, e32, fun t k => K32 t (by subst hx31; rw [hx33, if_neg hc20] at k; exact k)⟩
                          exact ⟨T34, X34, e34, fun t k => K34 t (by subst hx33; rw [hx35, if_neg hc17] at k; exact k)⟩
                      exact ⟨T36, X36, e36, fun t k => K36 t (by subst hx35; rw [hx37, if_neg hc14] at k; exact k)⟩
                  exact ⟨T38, X38, e38, fun t k => K38 t (by subst hx37; rw [hx39, if_neg hc11] at k; exact k)⟩
              exact ⟨T40, X40, e40, fun t k => K40 t (by subst hx39; rw [hx41, if_neg hc8] at k; exact k)⟩
          exact ⟨T42, X42, e42, fun t k => K42 t (by subst hx41; rw [hx43, if_neg hc5] at k; exact k)⟩
      exact ⟨T44, X44, e44, fun t k => K44 t (by subst hx43; rw [hx45, if_neg hc2] at k; exact k)⟩
  exact Own.finN X46 hx (BodyLoose.notSynchronized Bd) Bd.returns (by simp) (D d27_59) K46 (by decide) (by decide) ⟨by subst hx45; unfold F27; rfl, rfl, e46⟩

theorem d25_0 : decode J11 0 = .ok (.iload_n 0, 1) := by decide +kernel
theorem d25_1 : decode J11 1 = .ok (.invokestatic 53, 3) := by decide +kernel
theorem d25_4 : decode J11 4 = .ok (.ifCond .ne 10, 3) := by decide +kernel
theorem d25_7 : decode J11 7 = .ok (.iload_n 0, 1) := by decide +kernel
theorem d25_8 : decode J11 8 = .ok (.invokestatic 69, 3) := by decide +kernel
theorem d25_11 : decode J11 11 = .ok (.ifCond .eq 7, 3) := by decide +kernel
theorem d25_14 : decode J11 14 = .ok (.iconst 1, 1) := by decide +kernel
theorem d25_15 : decode J11 15 = .ok (.goto 4, 3) := by decide +kernel
theorem d25_18 : decode J11 18 = .ok (.iconst 0, 1) := by decide +kernel
theorem d25_19 : decode J11 19 = .ok (.ireturn, 1) := by decide +kernel
theorem pd_3 : parseMethodDescriptor "(C)Z" = some ⟨[.char], some .boolean⟩ := by decide +kernel
theorem ef_25 (m : MethodId) (p0 : Int32) : entryFrame m #[(.int p0)] 1 = mkF m 0 #[.val (.int p0)] [] := by first | (simp [entryFrame, mkF, argsToLocals, Value.category]; done) | rfl
def F25 (p0 : Int32) : Int32 := (nar .boolean (if (F17 p0) = (0 : Int32) then (if (F27 p0) = (0 : Int32) then (0 : Int32) else (1 : Int32)) else (1 : Int32)))
set_option maxRecDepth 65536 in
set_option maxHeartbeats 40000000 in
theorem c25 (l : Launch) (Z : State) (a0 : Array Value) (hw : ∀ d ∈ tables_1, d.before a0 Z = true) (p0 : Int32) (h0 : Heap) : Own.Con l Z (⟨"com/example/pliktflow/pliktflow/deposit/MediaTypeIsWellFormedPinLaw", "isNameChar", "(C)Z"⟩ : MethodName) method_11_code 1 (some .boolean) ({ frames := 1, cells := 0, slots := 0, locals := 12 } : Room) #[(.int p0)] h0 (Own.Pure (.int (F25 p0)) h0) := by
  intro ws
  refine MetFree.of_bodySF (plainFor_of_name pn_1) hisR ?_
  intro p e s m args below meth c s₁ Bd hml0 hP hK
  obtain ⟨rfl, hZ, hh⟩ := hP
  have hx := Bd.exec
  have hby := Bd.bytes
  have D := fun {n : Nat} {i} (d : decode method_11_code n = .ok i) => hb hby d
  have hml : c.maxLocals = 1 := hml0
  have hown : s.vm.findClass "com/example/pliktflow/pliktflow/deposit/MediaTypeIsWellFormedPinLaw" = some m.cls := findClass_of_methodNamed Bd.named
  have hnm := (name_of_methodNamed Bd.named Bd.method).1
  have X0 : Stand p l e ({ frames := 1, cells := 0, slots := 0, locals := 12 } : Room) s m #[(.int p0)] below meth c s₁ [] 0 0 := Stand.of_body Bd
  have e0 : s₁.heap = h0 := by rw [← hh, Bd.state]; rfl
  have K0 : ∀ t, Steps p.tables e below (s₁.setTop (mkF m 0 #[vi p0] [])) t → Steps p.tables e below (s₁.setTop (entryFrame m #[(.int p0)] 1)) t := fun t k => castTop (ef_25 m p0) k
  generalize s₁.setTop (entryFrame m #[(.int p0)] 1) = B0 at K0 ⊢
  show Own.Fin p e below B0 s (({ frames := 1, cells := 0, slots := 0, locals := 12 } : Room)).cells (({ frames := 1, cells := 0, slots := 0, locals := 12 } : Room)).slots (Own.Pure (.int (F25 p0)) h0)
  have K1 : Own.To p e below B0 s₁ (mkF m 1 #[vi p0] [(.int p0)]) := fun t k => K0 t (by
    refine Own.iloadN X0 hx (D d25_0) rfl ?_
    exact k)
  obtain ⟨T2, X2, e2, st2⟩ := Own.callP (Ls := #[vi p0]) X0 hx hZ e0 [(.int p0)] [] (c17 l Z a0 hw p0  h0 ) hown (W_ hw 74 rfl) (W_ hw 75 rfl) (W_ hw 4 rfl) (W_ hw 76 rfl) (by decide) 0 rfl rfl (by decide) (by decide) (by decide) (by decide) (szOf hml rfl) (lenOf pd_3 rfl) rfl (Nat.le_of_eq rfl) (D d25_1)
  have K3 := fun t k => K1 t (st2 t k)
  obtain ⟨x14, hx14⟩ : ∃ z : Int32, z = (if (F17 p0) = (0 : Int32) then (if (F27 p0) = (0 : Int32) then (0 : Int32) else (1 : Int32)) else (1 : Int32)) := ⟨_, rfl⟩
  obtain ⟨T15, X15, e15, K15⟩ : ∃ T' : State, Stand p l e ({ frames := 1, cells := 0, slots := 0, locals := 12 } : Room) s m #[(.int p0)] below meth c T' [] 0 0 ∧ T'.heap = h0 ∧ Own.To p e below B0 T' (mkF m 19 #[vi p0] [(.int x14)]) := by
    by_cases hc4 : (F17 p0) = (0 : Int32)
    · have K5 : Own.To p e below B0 T2 (mkF m 8 #[vi p0] [(.int p0)]) := fun t k => K3 t (by
        refine Own.ifNo X2 hx (D d25_4) ((if0 _ _).trans (teq hc4).2) ?_
        refine Own.iloadN X2 hx (D d25_7) rfl ?_
        exact k)
      obtain ⟨T6, X6, e6, st6⟩ := Own.callP (Ls := #[vi p0]) X2 hx hZ e2 [(.int p0)] [] (c27 l Z a0 hw p0  h0 ) hown (W_ hw 112 rfl) (W_ hw 113 rfl) (W_ hw 4 rfl) (W_ hw 114 rfl) (by decide) 0 rfl rfl (by decide) (by decide) (by decide) (by decide) (szOf hml rfl) (lenOf pd_3 rfl) rfl (Nat.le_of_eq rfl) (D d25_8)
      have K7 := fun t k => K5 t (st6 t k)
      obtain ⟨x11, hx11⟩ : ∃ z : Int32, z = (if (F27 p0) = (0 : Int32) then (0 : Int32) else (1 : Int32)) := ⟨_, rfl⟩
      obtain ⟨T12, X12, e12, K12⟩ : ∃ T' : State, Stand p l e ({ frames := 1, cells := 0, slots := 0, locals := 12 } : Room) s m #[(.int p0)] below meth c T' [] 0 0 ∧ T'.heap = h0 ∧ Own.To p e below B0 T' (mkF m 19 #[vi p0] [(.int x11)]) := by
        by_cases hc8 : (F27 p0) = (0 : Int32)
        · have K9 : Own.To p e below B0 T6 (mkF m 19 #[vi p0] [(.int 0)]) := fun t k => K7 t (by
            refine Own.ifYes X6 hx 18 (D d25_11) ((if0 _ _).trans (teq hc8).1) (by decide) (by decide) ?_
            refine Own.iconst X6 hx 0 (D d25_18) rfl ?_
            exact k)
          exact ⟨T6, X6, e6, fun t k => K9 t (by rw [hx11, if_pos hc8] at k; exact k)⟩
        · have K10 : Own.To p e below B0 T6 (mkF m 19 #[vi p0] [(.int 1)]) := fun t k => K7 t (by
            refine Own.ifNo X6 hx (D d25_11) ((if0 _ _).trans (feq hc8).1) ?_
            refine Own.iconst X6 hx 1 (D d25_14) rfl ?_
            refine Own.goto X6 hx 19 (D d25_15) (by decide) (by decide) ?_
            exact k)
          exact ⟨T6, X6, e6, fun t k => K10 t (by rw [hx11, if_neg hc8] at k; exact k)⟩
      exact ⟨T12, X12, e12, fun t k => K12 t (by subst hx11; rw [hx14, if_pos hc4] at k; exact k)⟩
    · have K13 : Own.To p e below B0 T2 (mkF m 19 #[vi p0] [(.int 1)]) := fun t k => K3 t (by
        refine Own.ifYes X2 hx 14 (D d25_4) ((if0 _ _).trans (feq hc4).2) (by decide) (by decide) ?_
        refine Own.iconst X2 hx 1 (D d25_14) rfl ?_
        refine Own.goto X2 hx 19 (D d25_15) (by decide) (by decide) ?_
        exact k)
      exact ⟨T2, X2, e2, fun t k => K13 t (by rw [hx14, if_neg hc4] at k; exact k)⟩
  exact Own.finN X15 hx (BodyLoose.notSynchronized Bd) Bd.returns (by simp) (D d25_19) K15 (by decide) (by decide) ⟨by subst hx14; unfold F25; rfl, rfl, e15⟩

theorem d28_0 : decode J13 0 = .ok (.iload_n 0, 1) := by decide +kernel
theorem d28_1 : decode J13 1 = .ok (.bipush 32, 2) := by decide +kernel
theorem d28_3 : decode J13 3 = .ok (.if_icmp .eq 9, 3) := by decide +kernel
theorem d28_6 : decode J13 6 = .ok (.iload_n 0, 1) := by decide +kernel
theorem d28_7 : decode J13 7 = .ok (.bipush 9, 2) := by decide +kernel
theorem d28_9 : decode J13 9 = .ok (.if_icmp .ne 7, 3) := by decide +kernel
theorem d28_12 : decode J13 12 = .ok (.iconst 1, 1) := by decide +kernel
theorem d28_13 : decode J13 13 = .ok (.goto 4, 3) := by decide +kernel
theorem d28_16 : decode J13 16 = .ok (.iconst 0, 1) := by decide +kernel
theorem d28_17 : decode J13 17 = .ok (.ireturn, 1) := by decide +kernel
theorem ef_28 (m : MethodId) (p0 : Int32) : entryFrame m #[(.int p0)] 1 = mkF m 0 #[.val (.int p0)] [] := by first | (simp [entryFrame, mkF, argsToLocals, Value.category]; done) | rfl
def F28 (p0 : Int32) : Int32 := (nar .boolean (if p0 = (32 : Int32) then (1 : Int32) else (if p0 = (9 : Int32) then (1 : Int32) else (0 : Int32))))
set_option maxRecDepth 65536 in
set_option maxHeartbeats 40000000 in
theorem c28 (l : Launch) (Z : State) (a0 : Array Value) (hw : ∀ d ∈ tables_1, d.before a0 Z = true) (p0 : Int32) (h0 : Heap) : Own.Con l Z (⟨"com/example/pliktflow/pliktflow/deposit/MediaTypeIsWellFormedPinLaw", "isWs", "(C)Z"⟩ : MethodName) method_13_code 1 (some .boolean) ({ frames := 0, cells := 0, slots := 0, locals := 0 } : Room) #[(.int p0)] h0 (Own.Pure (.int (F28 p0)) h0) := by
  intro ws
  refine MetFree.of_bodySF (plainFor_of_name pn_1) hisR ?_
  intro p e s m args below meth c s₁ Bd hml0 hP hK
  obtain ⟨rfl, hZ, hh⟩ := hP
  have hx := Bd.exec
  have hby := Bd.bytes
  have D := fun {n : Nat} {i} (d : decode method_13_code n = .ok i) => hb hby d
  have hml : c.maxLocals = 1 := hml0
  have hown : s.vm.findClass "com/example/pliktflow/pliktflow/deposit/MediaTypeIsWellFormedPinLaw" = some m.cls := findClass_of_methodNamed Bd.named
  have hnm := (name_of_methodNamed Bd.named Bd.method).1
  have X0 : Stand p l e ({ frames := 0, cells := 0, slots := 0, locals := 0 } : Room) s m #[(.int p0)] below meth c s₁ [] 0 0 := Stand.of_body Bd
  have e0 : s₁.heap = h0 := by rw [← hh, Bd.state]; rfl
  have K0 : ∀ t, Steps p.tables e below (s₁.setTop (mkF m 0 #[vi p0] [])) t → Steps p.tables e below (s₁.setTop (entryFrame m #[(.int p0)] 1)) t := fun t k => castTop (ef_28 m p0) k
  generalize s₁.setTop (entryFrame m #[(.int p0)] 1) = B0 at K0 ⊢
  show Own.Fin p e below B0 s (({ frames := 0, cells := 0, slots := 0, locals := 0 } : Room)).cells (({ frames := 0, cells := 0, slots := 0, locals := 0 } : Room)).slots (Own.Pure (.int (F28 p0)) h0)
  have K1 : Own.To p e below B0 s₁ (mkF m 3 #[vi p0] [(.int 32), (.int p0)]) := fun t k => K0 t (by
    refine Own.iloadN X0 hx (D d28_0) rfl ?_
    refine Own.bipush X0 hx 32 (D d28_1) rfl ?_
    exact k)
  obtain ⟨x10, hx10⟩ : ∃ z : Int32, z = (if p0 = (32 : Int32) then (1 : Int32) else (if p0 = (9 : Int32) then (1 : Int32) else (0 : Int32))) := ⟨_, rfl⟩
  obtain ⟨T11, X11, e11, K11⟩ : ∃ T' : State, Stand p l e ({ frames := 0, cells := 0, slots := 0, locals := 0 } : Room) s m #[(.int p0)] below meth c T' [] 0 0 ∧ T'.heap = h0 ∧ Own.To p e below B0 T' (mkF m 17 #[vi p0] [(.int x10)]) := by
    by_cases hc2 : p0 = (32 : Int32)
    · have K3 : Own.To p e below B0 s₁ (mkF m 17 #[vi p0] [(.int 1)]) := fun t k => K1 t (by
        refine Own.icmpYes X0 hx 12 (D d28_3) (teq hc2).1 (by decide) (by decide) ?_
        refine Own.iconst X0 hx 1 (D d28_12) rfl ?_
        refine Own.goto X0 hx 17 (D d28_13) (by decide) (by decide) ?_
        exact k)
      exact ⟨s₁, X0, e0, fun t k => K3 t (by rw [hx10, if_pos hc2] at k; exact k)⟩
    · have K4 : Own.To p e below B0 s₁ (mkF m 9 #[vi p0] [(.int 9), (.int p0)]) := fun t k => K1 t (by
        refine Own.icmpNo X0 hx (D d28_3) (feq hc2).1 ?_
        refine Own.iloadN X0 hx (D d28_6) rfl ?_
        refine Own.bipush X0 hx 9 (D d28_7) rfl ?_
        exact k)
      obtain ⟨x8, hx8⟩ : ∃ z : Int32, z = (if p0 = (9 : Int32) then (1 : Int32) else (0 : Int32)) := ⟨_, rfl⟩
      obtain ⟨T9, X9, e9, K9⟩ : ∃ T' : State, Stand p l e ({ frames := 0, cells := 0, slots := 0, locals := 0 } : Room) s m #[(.int p0)] below meth c T' [] 0 0 ∧ T'.heap = h0 ∧ Own.To p e below B0 T' (mkF m 17 #[vi p0] [(.int x8)]) := by
        by_cases hc5 : p0 = (9 : Int32)
        · have K6 : Own.To p e below B0 s₁ (mkF m 17 #[vi p0] [(.int 1)]) := fun t k => K4 t (by
            refine Own.icmpNo X0 hx (D d28_9) (teq hc5).2 ?_
            refine Own.iconst X0 hx 1 (D d28_12) rfl ?_
            refine Own.goto X0 hx 17 (D d28_13) (by decide) (by decide) ?_
            exact k)
          exact ⟨s₁, X0, e0, fun t k => K6 t (by rw [hx8, if_pos hc5] at k; exact k)⟩
        · have K7 : Own.To p e below B0 s₁ (mkF m 17 #[vi p0] [(.int 0)]) := fun t k => K4 t (by
            refine Own.icmpYes X0 hx 16 (D d28_9) (feq hc5).2 (by decide) (by decide) ?_
            refine Own.iconst X0 hx 0 (D d28_16) rfl ?_
            exact k)
          exact ⟨s₁, X0, e0, fun t k => K7 t (by rw [hx8, if_neg hc5] at k; exact k)⟩
      exact ⟨T9, X9, e9, fun t k => K9 t (by subst hx8; rw [hx10, if_neg hc2] at k; exact k)⟩
  exact Own.finN X11 hx (BodyLoose.notSynchronized Bd) Bd.returns (by simp) (D d28_17) K11 (by decide) (by decide) ⟨by subst hx10; unfold F28; rfl, rfl, e11⟩

theorem d29_0 : decode J12 0 = .ok (.iload_n 0, 1) := by decide +kernel
theorem d29_1 : decode J12 1 = .ok (.invokestatic 57, 3) := by decide +kernel
theorem d29_4 : decode J12 4 = .ok (.ifCond .ne 39, 3) := by decide +kernel
theorem d29_7 : decode J12 7 = .ok (.iload_n 0, 1) := by decide +kernel
theorem d29_8 : decode J12 8 = .ok (.bipush 37, 2) := by decide +kernel
theorem d29_10 : decode J12 10 = .ok (.if_icmp .eq 33, 3) := by decide +kernel
theorem d29_13 : decode J12 13 = .ok (.iload_n 0, 1) := by decide +kernel
theorem d29_14 : decode J12 14 = .ok (.bipush 39, 2) := by decide +kernel
theorem d29_16 : decode J12 16 = .ok (.if_icmp .eq 27, 3) := by decide +kernel
theorem d29_19 : decode J12 19 = .ok (.iload_n 0, 1) := by decide +kernel
theorem d29_20 : decode J12 20 = .ok (.bipush 42, 2) := by decide +kernel
theorem d29_22 : decode J12 22 = .ok (.if_icmp .eq 21, 3) := by decide +kernel
theorem d29_25 : decode J12 25 = .ok (.iload_n 0, 1) := by decide +kernel
theorem d29_26 : decode J12 26 = .ok (.bipush 96, 2) := by decide +kernel
theorem d29_28 : decode J12 28 = .ok (.if_icmp .eq 15, 3) := by decide +kernel
theorem d29_31 : decode J12 31 = .ok (.iload_n 0, 1) := by decide +kernel
theorem d29_32 : decode J12 32 = .ok (.bipush 124, 2) := by decide +kernel
theorem d29_34 : decode J12 34 = .ok (.if_icmp .eq 9, 3) := by decide +kernel
theorem d29_37 : decode J12 37 = .ok (.iload_n 0, 1) := by decide +kernel
theorem d29_38 : decode J12 38 = .ok (.bipush 126, 2) := by decide +kernel
theorem d29_40 : decode J12 40 = .ok (.if_icmp .ne 7, 3) := by decide +kernel
theorem d29_43 : decode J12 43 = .ok (.iconst 1, 1) := by decide +kernel
theorem d29_44 : decode J12 44 = .ok (.goto 4, 3) := by decide +kernel
theorem d29_47 : decode J12 47 = .ok (.iconst 0, 1) := by decide +kernel
theorem d29_48 : decode J12 48 = .ok (.ireturn, 1) := by decide +kernel
theorem ef_29 (m : MethodId) (p0 : Int32) : entryFrame m #[(.int p0)] 1 = mkF m 0 #[.val (.int p0)] [] := by first | (simp [entryFrame, mkF, argsToLocals, Value.category]; done) | rfl
def F29 (p0 : Int32) : Int32 := (nar .boolean (if (F25 p0) = (0 : Int32) then (if p0 = (37 : Int32) then (1 : Int32) else (if p0 = (39 : Int32) then (1 : Int32) else (if p0 = (42 : Int32) then (1 : Int32) else (if p0 = (96 : Int32) then (1 : Int32) else (if p0 = (124 : Int32) then (1 : Int32) else (if p0 = (126 : Int32) then (1 : Int32) else (0 : Int32))))))) else (1 : Int32)))
set_option maxRecDepth 65536 in
set_option maxHeartbeats 40000000 in
theorem c29 (l : Launch) (Z : State) (a0 : Array Value) (hw : ∀ d ∈ tables_1, d.before a0 Z = true) (p0 : Int32) (h0 : Heap) : Own.Con l Z (⟨"com/example/pliktflow/pliktflow/deposit/MediaTypeIsWellFormedPinLaw", "isTokenChar", "(C)Z"⟩ : MethodName) method_12_code 1 (some .boolean) ({ frames := 2, cells := 0, slots := 0, locals := 24 } : Room) #[(.int p0)] h0 (Own.Pure (.int (F29 p0)) h0) := by
  intro ws
  refine MetFree.of_bodySF (plainFor_of_name pn_1) hisR ?_
  intro p e s m args below meth c s₁ Bd hml0 hP hK
  obtain ⟨rfl, hZ, hh⟩ := hP
  have hx := Bd.exec
  have hby := Bd.bytes
  have D := fun {n : Nat} {i} (d : decode method_12_code n = .ok i) => hb hby d
  have hml : c.maxLocals = 1 := hml0
  have hown : s.vm.findClass "com/example/pliktflow/pliktflow/deposit/MediaTypeIsWellFormedPinLaw" = some m.cls := findClass_of_methodNamed Bd.named
  have hnm := (name_of_methodNamed Bd.named Bd.method).1
  have X0 : Stand p l e ({ frames := 2, cells := 0, slots := 0, locals := 24 } : Room) s m #[(.int p0)] below meth c s₁ [] 0 0 := Stand.of_body Bd
  have e0 : s₁.heap = h0 := by rw [← hh, Bd.state]; rfl
  have K0 : ∀ t, Steps p.tables e below (s₁.setTop (mkF m 0 #[vi p0] [])) t → Steps p.tables e below (s₁.setTop (entryFrame m #[(.int p0)] 1)) t := fun t k => castTop (ef_29 m p0) k
  generalize s₁.setTop (entryFrame m #[(.int p0)] 1) = B0 at K0 ⊢
  show Own.Fin p e below B0 s (({ frames := 2, cells := 0, slots := 0, locals := 24 } : Room)).cells (({ frames := 2, cells := 0, slots := 0, locals := 24 } : Room)).slots (Own.Pure (.int (F29 p0)) h0)
  have K1 : Own.To p e below B0 s₁ (mkF m 1 #[vi p0] [(.int p0)]) := fun t k => K0 t (by
    refine Own.iloadN X0 hx (D d29_0) rfl ?_
    exact k)
  obtain ⟨T2, X2, e2, st2⟩ := Own.callP (Ls := #[vi p0]) X0 hx hZ e0 [(.int p0)] [] (c25 l Z a0 hw p0  h0 ) hown (W_ hw 105 rfl) (W_ hw 106 rfl) (W_ hw 4 rfl) (W_ hw 107 rfl) (by decide) 0 rfl rfl (by decide) (by decide) (by decide) (by decide) (szOf hml rfl) (lenOf pd_3 rfl) rfl (Nat.le_of_eq rfl) (D d29_1)
  have K3 := fun t k => K1 t (st2 t k)
  obtain ⟨x37, hx37⟩ : ∃ z : Int32, z = (if (F25 p0) = (0 : Int32) then (if p0 = (37 : Int32) then (1 : Int32) else (if p0 = (39 : Int32) then (1 : Int32) else (if p0 = (42 : Int32) then (1 : Int32) else (if p0 = (96 : Int32) then (1 : Int32) else (if p0 = (124 : Int32) then (1 : Int32) else (if p0 = (126 : Int32) then (1 : Int32) else (0 : Int32))))))) else (1 : Int32)) := ⟨_, rfl⟩
  obtain ⟨T38, X38, e38, K38⟩ : ∃ T' : State, Stand p l e ({ frames := 2, cells := 0, slots := 0, locals := 24 } : Room) s m #[(.int p0)] below meth c T' [] 0 0 ∧ T'.heap = h0 ∧ Own.To p e below B0 T' (mkF m 48 #[vi p0] [(.int x37)]) := by
    by_cases hc4 : (F25 p0) = (0 : Int32)
    · have K5 : Own.To p e below B0 T2 (mkF m 10 #[vi p0] [(.int 37), (.int p0)]) := fun t k => K3 t (by
        refine Own.ifNo X2 hx (D d29_4) ((if0 _ _).trans (teq hc4).2) ?_
        refine Own.iloadN X2 hx (D d29_7) rfl ?_
        refine Own.bipush X2 hx 37 (D d29_8) rfl ?_
        exact k)
      obtain ⟨x34, hx34⟩ : ∃ z : Int32, z = (if p0 = (37 : Int32) then (1 : Int32) else (if p0 = (39 : Int32) then (1 : Int32) else (if p0 = (42 : Int32) then (1 : Int32) else (if p0 = (96 : Int32) then (1 : Int32) else (if p0 = (124 : Int32) then (1 : Int32) else (if p0 = (126 : Int32) then (1 : Int32) else (0 : Int32))))))) := ⟨_, rfl⟩
      obtain ⟨T35, X35, e35, K35⟩ : ∃ T' : State, Stand p l e ({ frames := 2, cells := 0, slots := 0, locals := 24 } : Room) s m #[(.int p0)] below meth c T' [] 0 0 ∧ T'.heap = h0 ∧ Own.To p e below B0 T' (mkF m 48 #[vi p0] [(.int x34)]) := by
        by_cases hc6 : p0 = (37 : Int32)
        · have K7 : Own.To p e below B0 T2 (mkF m 48 #[vi p0] [(.int 1)]) := fun t k => K5 t (by
            refine Own.icmpYes X2 hx 43 (D d29_10) (teq hc6).1 (by decide) (by decide) ?_
            refine Own.iconst X2 hx 1 (D d29_43) rfl ?_
            refine Own.goto X2 hx 48 (D d29_44) (by decide) (by decide) ?_
            exact k)
          exact ⟨T2, X2, e2, fun t k => K7 t (by rw [hx34, if_pos hc6] at k; exact k)⟩
        · have K8 : Own.To p e below B0 T2 (mkF m 16 #[vi p0] [(.int 39), (.int p0)]) := fun t k => K5 t (by
            refine Own.icmpNo X2 hx (D d29_10) (feq hc6).1 ?_
            refine Own.iloadN X2 hx (D d29_13) rfl ?_
            refine Own.bipush X2 hx 39 (D d29_14) rfl ?_
            exact k)
          obtain ⟨x32, hx32⟩ : ∃ z : Int32, z = (if p0 = (39 : Int32) then (1 : Int32) else (if p0 = (42 : Int32) then (1 : Int32) else (if p0 = (96 : Int32) then (1 : Int32) else (if p0 = (124 : Int32) then (1 : Int32) else (if p0 = (126 : Int32) then (1 : Int32) else (0 : Int32)))))) := ⟨_, rfl⟩
          obtain ⟨T33, X33, e33, K33⟩ : ∃ T' : State, Stand p l e ({ frames := 2, cells := 0, slots := 0, locals := 24 } : Room) s m #[(.int p0)] below meth c T' [] 0 0 ∧ T'.heap = h0 ∧ Own.To p e below B0 T' (mkF m 48 #[vi p0] [(.int x32)]) := by
            by_cases hc9 : p0 = (39 : Int32)
            · have K10 : Own.To p e below B0 T2 (mkF m 48 #[vi p0] [(.int 1)]) := fun t k => K8 t (by
                refine Own.icmpYes X2 hx 43 (D d29_16) (teq hc9).1 (by decide) (by decide) ?_
                refine Own.iconst X2 hx 1 (D d29_43) rfl ?_
                refine Own.goto X2 hx 48 (D d29_44) (by decide) (by decide) ?_
                exact k)
              exact ⟨T2, X2, e2, fun t k => K10 t (by rw [hx32, if_pos hc9] at k; exact k)⟩
            · have K11 : Own.To p e below B0 T2 (mkF m 22 #[vi p0] [(.int 42), (.int p0)]) := fun t k => K8 t (by
                refine Own.icmpNo X2 hx (D d29_16) (feq hc9).1 ?_
                refine Own.iloadN X2 hx (D d29_19) rfl ?_
                refine Own.bipush X2 hx 42 (D d29_20) rfl ?_
                exact k)
              obtain ⟨x30, hx30⟩ : ∃ z : Int32, z = (if p0 = (42 : Int32) then (1 : Int32) else (if p0 = (96 : Int32) then (1 : Int32) else (if p0 = (124 : Int32) then (1 : Int32) else (if p0 = (126 : Int32) then (1 : Int32) else (0 : Int32))))) := ⟨_, rfl⟩
              obtain ⟨T31, X31, e31, K31⟩ : ∃ T' : State, Stand p l e ({ frames := 2, cells := 0, slots := 0, locals := 24 } : Room) s m #[(.int p0)] below meth c T' [] 0 0 ∧ T'.heap = h0 ∧ Own.To p e below B0 T' (mkF m 48 #[vi p0] [(.int x30)]) := by
                by_cases hc12 : p0 = (42 : Int32)
                · have K13 : Own.To p e below B0 T2 (mkF m 48 #[vi p0] [(.int 1)]) := fun t k => K11 t (by
                    refine Own.icmpYes X2 hx 43 (D d29_22) (teq hc12).1 (by decide) (by decide) ?_
                    refine Own.iconst X2 hx 1 (D d29_43) rfl ?_
                    refine Own.goto X2 hx 48 (D d29_44) (by decide) (by decide) ?_
                    exact k)
                  exact ⟨T2, X2, e2, fun t k => K13 t (by rw [hx30, if_pos hc12] at k; exact k)⟩
                · have K14 : Own.To p e below B0 T2 (mkF m 28 #[vi p0] [(.int 96), (.int p0)]) := fun t k => K11 t (by
                    refine Own.icmpNo X2 hx (D d29_22) (feq hc12).1 ?_
                    refine Own.iloadN X2 hx (D d29_25) rfl ?_
                    refine Own.bipush X2 hx 96 (D d29_26) rfl ?_
                    exact k)
                  obtain ⟨x28, hx28⟩ : ∃ z : Int32, z = (if p0 = (96 : Int32) then (1 : Int32) else (if p0 = (124 : Int32) then (1 : Int32) else (if p0 = (126 : Int32) then (1 : Int32) else (0 : Int32)))) := ⟨_, rfl⟩
                  obtain ⟨T29, X29, e29, K29⟩ : ∃ T' : State, Stand p l e ({ frames := 2, cells := 0, slots := 0, locals := 24 } : Room) s m #[(.int p0)] below meth c T' [] 0 0 ∧ T'.heap = h0 ∧ Own.To p e below B0 T' (mkF m 48 #[vi p0] [(.int x28)]) := by
                    by_cases hc15 : p0 = (96 : Int32)
                    · have K16 : Own.To p e below B0 T2 (mkF m 48 #[vi p0] [(.int 1)]) := fun t k => K14 t (by
                        refine Own.icmpYes X2 hx 43 (D d29_28) (teq hc15).1 (by decide) (by decide) ?_
                        refine Own.iconst X2 hx 1 (D d29_43) rfl ?_
                        refine Own.goto X2 hx 48 (D d29_44) (by decide) (by decide) ?_
                        exact k)
                      exact ⟨T2, X2, e2, fun t k => K16 t (by rw [hx28, if_pos hc15] at k; exact k)⟩
                    · have K17 : Own.To p e below B0 T2 (mkF m 34 #[vi p0] [(.int 124), (.int p0)]) := fun t k => K14 t (by
                        refine Own.icmpNo X2 hx (D d29_28) (feq hc15).1 ?_
                        refine Own.iloadN X2 hx (D d29_31) rfl ?_
                        refine Own.bipush X2 hx 124 (D d29_32) rfl ?_
                        exact k)
                      obtain ⟨x26, hx26⟩ : ∃ z : Int32, z = (if p0 = (124 : Int32) then (1 : Int32) else (if p0 = (126 : Int32) then (1 : Int32) else (0 : Int32))) := ⟨_, rfl⟩
                      obtain ⟨T27, X27, e27, K27⟩ : ∃ T' : State, Stand p l e ({ frames := 2, cells := 0, slots := 0, locals := 24 } : Room) s m #[(.int p0)] below meth c T' [] 0 0 ∧ T'.heap = h0 ∧ Own.To p e below B0 T' (mkF m 48 #[vi p0] [(.int x26)]) := by
                        by_cases hc18 : p0 = (124 : Int32)
                        · have K19 : Own.To p e below B0 T2 (mkF m 48 #[vi p0] [(.int 1)]) := fun t k => K17 t (by
                            refine Own.icmpYes X2 hx 43 (D d29_34) (teq hc18).1 (by decide) (by decide) ?_
                            refine Own.iconst X2 hx 1 (D d29_43) rfl ?_
                            refine Own.goto X2 hx 48 (D d29_44) (by decide) (by decide) ?_
                            exact k)
                          exact ⟨T2, X2, e2, fun t k => K19 t (by rw [hx26, if_pos hc18] at k; exact k)⟩
                        · have K20 : Own.To p e below B0 T2 (mkF m 40 #[vi p0] [(.int 126), (.int p0)]) := fun t k => K17 t (by
                            refine Own.icmpNo X2 hx (D d29_34) (feq hc18).1 ?_
                            refine Own.iloadN X2 hx (D d29_37) rfl ?_
                            refine Own.bipush X2 hx 126 (D d29_38) rfl ?_
                            exact k)
                          obtain ⟨x24, hx24⟩ : ∃ z : Int32, z = (if p0 = (126 : Int32) then (1 : Int32) else (0 : Int32)) := ⟨_, rfl⟩
                          obtain ⟨T25, X25, e25, K25⟩ : ∃ T' : State, Stand p l e ({ frames := 2, cells := 0, slots := 0, locals := 24 } : Room) s m #[(.int p0)] below meth c T' [] 0 0 ∧ T'.heap = h0 ∧ Own.To p e below B0 T' (mkF m 48 #[vi p0] [(.int x24)]) := by
                            by_cases hc21 : p0 = (126 : Int32)
                            · have K22 : Own.To p e below B0 T2 (mkF m 48 #[vi p0] [(.int 1)]) := fun t k => K20 t (by
                                refine Own.icmpNo X2 hx (D d29_40) (teq hc21).2 ?_
                                refine Own.iconst X2 hx 1 (D d29_43) rfl ?_
                                refine Own.goto X2 hx 48 (D d29_44) (by decide) (by decide) ?_
                                exact k)
                              exact ⟨T2, X2, e2, fun t k => K22 t (by rw [hx24, if_pos hc21] at k; exact k)⟩
                            · have K23 : Own.To p e below B0 T2 (mkF m 48 #[vi p0] [(.int 0)]) := fun t k => K20 t (by
                                refine Own.icmpYes X2 hx 47 (D d29_40) (feq hc21).2 (by decide) (by decide) ?_
                                refine Own.iconst X2 hx 0 (D d29_47) rfl ?_
                                exact k)
                              exact ⟨T2, X2, e2, fun t k => K23 t (by rw [hx24, if_neg hc21] at k; exact k)⟩
                          exact ⟨T25, X25, e25, fun t k => K25 t (by subst hx24; rw [hx26, if_neg hc18] at k; exact k)⟩
                      exact ⟨T27, X27, e27, fun t k => K27 t (by subst hx26; rw [hx28, if_neg hc15] at k; exact k)⟩
                  exact ⟨T29, X29, e29, fun t k => K29 t (by subst hx28; rw [hx30, if_neg hc12] at k; exact k)⟩
              exact ⟨T31, X31, e31, fun t k => K31 t (by subst hx30; rw [hx32, if_neg hc9] at k; exact k)⟩
          exact ⟨T33, X33, e33, fun t k => K33 t (by subst hx32; rw [hx34, if_neg hc6] at k; exact k)⟩
      exact ⟨T35, X35, e35, fun t k => K35 t (by subst hx34; rw [hx37, if_pos hc4] at k; exact k)⟩
    · have K36 : Own.To p e below B0 T2 (mkF m 48 #[vi p0] [(.int 1)]) := fun t k => K3 t (by
        refine Own.ifYes X2 hx 43 (D d29_4) ((if0 _ _).trans (feq hc4).2) (by decide) (by decide) ?_
        refine Own.iconst X2 hx 1 (D d29_43) rfl ?_
        refine Own.goto X2 hx 48 (D d29_44) (by decide) (by decide) ?_
        exact k)
      exact ⟨T2, X2, e2, fun t k => K36 t (by rw [hx37, if_neg hc4] at k; exact k)⟩
  exact Own.finN X38 hx (BodyLoose.notSynchronized Bd) Bd.returns (by simp) (D d29_48) K38 (by decide) (by decide) ⟨by subst hx37; unfold F29; rfl, rfl, e38⟩

theorem d41_0 : decode J14 0 = .ok (.iload_n 0, 1) := by decide +kernel
theorem d41_1 : decode J14 1 = .ok (.invokestatic 60, 3) := by decide +kernel
theorem d41_4 : decode J14 4 = .ok (.ifCond .ne 15, 3) := by decide +kernel
theorem d41_7 : decode J14 7 = .ok (.iload_n 0, 1) := by decide +kernel
theorem d41_8 : decode J14 8 = .ok (.bipush 32, 2) := by decide +kernel
theorem d41_10 : decode J14 10 = .ok (.if_icmp .le 13, 3) := by decide +kernel
theorem d41_13 : decode J14 13 = .ok (.iload_n 0, 1) := by decide +kernel
theorem d41_14 : decode J14 14 = .ok (.bipush 126, 2) := by decide +kernel
theorem d41_16 : decode J14 16 = .ok (.if_icmp .gt 7, 3) := by decide +kernel
theorem d41_19 : decode J14 19 = .ok (.iconst 1, 1) := by decide +kernel
theorem d41_20 : decode J14 20 = .ok (.goto 4, 3) := by decide +kernel
theorem d41_23 : decode J14 23 = .ok (.iconst 0, 1) := by decide +kernel
theorem d41_24 : decode J14 24 = .ok (.ireturn, 1) := by decide +kernel
theorem ef_41 (m : MethodId) (p0 : Int32) : entryFrame m #[(.int p0)] 1 = mkF m 0 #[.val (.int p0)] [] := by first | (simp [entryFrame, mkF, argsToLocals, Value.category]; done) | rfl
def F41 (p0 : Int32) : Int32 := (nar .boolean (if (F28 p0) = (0 : Int32) then (if (32 : Int32) < p0 then (if (126 : Int32) < p0 then (0 : Int32) else (1 : Int32)) else (0 : Int32)) else (1 : Int32)))
set_option maxRecDepth 65536 in
set_option maxHeartbeats 40000000 in
theorem c41 (l : Launch) (Z : State) (a0 : Array Value) (hw : ∀ d ∈ tables_1, d.before a0 Z = true) (p0 : Int32) (h0 : Heap) : Own.Con l Z (⟨"com/example/pliktflow/pliktflow/deposit/MediaTypeIsWellFormedPinLaw", "isText", "(C)Z"⟩ : MethodName) method_14_code 1 (some .boolean) ({ frames := 1, cells := 0, slots := 0, locals := 12 } : Room) #[(.int p0)] h0 (Own.Pure (.int (F41 p0)) h0) := by
  intro ws
  refine MetFree.of_bodySF (plainFor_of_name pn_1) hisR ?_
  intro p e s m args below meth c s₁ Bd hml0 hP hK
  obtain ⟨rfl, hZ, hh⟩ := hP
  have hx := Bd.exec
  have hby := Bd.bytes
  have D := fun {n : Nat} {i} (d : decode method_14_code n = .ok i) => hb hby d
  have hml : c.maxLocals = 1 := hml0
  have hown : s.vm.findClass "com/example/pliktflow/pliktflow/deposit/MediaTypeIsWellFormedPinLaw" = some m.cls := findClass_of_methodNamed Bd.named
  have hnm := (name_of_methodNamed Bd.named Bd.method).1
  have X0 : Stand p l e ({ frames := 1, cells := 0, slots := 0, locals := 12 } : Room) s m #[(.int p0)] below meth c s₁ [] 0 0 := Stand.of_body Bd
  have e0 : s₁.heap = h0 := by rw [← hh, Bd.state]; rfl
  have K0 : ∀ t, Steps p.tables e below (s₁.setTop (mkF m 0 #[vi p0] [])) t → Steps p.tables e below (s₁.setTop (entryFrame m #[(.int p0)] 1)) t := fun t k => castTop (ef_41 m p0) k
  generalize s₁.setTop (entryFrame m #[(.int p0)] 1) = B0 at K0 ⊢
  show Own.Fin p e below B0 s (({ frames := 1, cells := 0, slots := 0, locals := 12 } : Room)).cells (({ frames := 1, cells := 0, slots := 0, locals := 12 } : Room)).slots (Own.Pure (.int (F41 p0)) h0)
  have K1 : Own.To p e below B0 s₁ (mkF m 1 #[vi p0] [(.int p0)]) := fun t k => K0 t (by
    refine Own.iloadN X0 hx (D d41_0) rfl ?_
    exact k)
  obtain ⟨T2, X2, e2, st2⟩ := Own.callP (Ls := #[vi p0]) X0 hx hZ e0 [(.int p0)] [] (c28 l Z a0 hw p0  h0 ) hown (W_ hw 115 rfl) (W_ hw 116 rfl) (W_ hw 4 rfl) (W_ hw 117 rfl) (by decide) 0 rfl rfl (by decide) (by decide) (by decide) (by decide) (szOf hml rfl) (lenOf pd_3 rfl) rfl (Nat.le_of_eq rfl) (D d41_1)
  have K3 := fun t k => K1 t (st2 t k)
  obtain ⟨x17, hx17⟩ : ∃ z : Int32, z = (if (F28 p0) = (0 : Int32) then (if (32 : Int32) < p0 then (if (126 : Int32) < p0 then (0 : Int32) else (1 : Int32)) else (0 : Int32)) else (1 : Int32)) := ⟨_, rfl⟩
  obtain ⟨T18, X18, e18, K18⟩ : ∃ T' : State, Stand p l e ({ frames := 1, cells := 0, slots := 0, locals := 12 } : Room) s m #[(.int p0)] below meth c T' [] 0 0 ∧ T'.heap = h0 ∧ Own.To p e below B0 T' (mkF m 24 #[vi p0] [(.int x17)]) := by
    by_cases hc4 : (F28 p0) = (0 : Int32)
    · have K5 : Own.To p e below B0 T2 (mkF m 10 #[vi p0] [(.int 32), (.int p0)]) := fun t k => K3 t (by
        refine Own.ifNo X2 hx (D d41_4) ((if0 _ _).trans (teq hc4).2) ?_
        refine Own.iloadN X2 hx (D d41_7) rfl ?_
        refine Own.bipush X2 hx 32 (D d41_8) rfl ?_
        exact k)
      obtain ⟨x14, hx14⟩ : ∃ z : Int32, z = (if (32 : Int32) < p0 then (if (126 : Int32) < p0 then (0 : Int32) else (1 : Int32)) else (0 : Int32)) := ⟨_, rfl⟩
      obtain ⟨T15, X15, e15, K15⟩ : ∃ T' : State, Stand p l e ({ frames := 1, cells := 0, slots := 0, locals := 12 } : Room) s m #[(.int p0)] below meth c T' [] 0 0 ∧ T'.heap = h0 ∧ Own.To p e below B0 T' (mkF m 24 #[vi p0] [(.int x14)]) := by
        by_cases hc6 : (32 : Int32) < p0
        · have K7 : Own.To p e below B0 T2 (mkF m 16 #[vi p0] [(.int 126), (.int p0)]) := fun t k => K5 t (by
            refine Own.icmpNo X2 hx (D d41_10) (tlt hc6).2.2.2 ?_
            refine Own.iloadN X2 hx (D d41_13) rfl ?_
            refine Own.bipush X2 hx 126 (D d41_14) rfl ?_
            exact k)
          obtain ⟨x11, hx11⟩ : ∃ z : Int32, z = (if (126 : Int32) < p0 then (0 : Int32) else (1 : Int32)) := ⟨_, rfl⟩
          obtain ⟨T12, X12, e12, K12⟩ : ∃ T' : State, Stand p l e ({ frames := 1, cells := 0, slots := 0, locals := 12 } : Room) s m #[(.int p0)] below meth c T' [] 0 0 ∧ T'.heap = h0 ∧ Own.To p e below B0 T' (mkF m 24 #[vi p0] [(.int x11)]) := by
            by_cases hc8 : (126 : Int32) < p0
            · have K9 : Own.To p e below B0 T2 (mkF m 24 #[vi p0] [(.int 0)]) := fun t k => K7 t (by
                refine Own.icmpYes X2 hx 23 (D d41_16) (tlt hc8).2.2.1 (by decide) (by decide) ?_
                refine Own.iconst X2 hx 0 (D d41_23) rfl ?_
                exact k)
              exact ⟨T2, X2, e2, fun t k => K9 t (by rw [hx11, if_pos hc8] at k; exact k)⟩
            · have K10 : Own.To p e below B0 T2 (mkF m 24 #[vi p0] [(.int 1)]) := fun t k => K7 t (by
                refine Own.icmpNo X2 hx (D d41_16) (flt hc8).2.2.1 ?_
                refine Own.iconst X2 hx 1 (D d41_19) rfl ?_
                refine Own.goto X2 hx 24 (D d41_20) (by decide) (by decide) ?_
                exact k)
              exact ⟨T2, X2, e2, fun t k => K10 t (by rw [hx11, if_neg hc8] at k; exact k)⟩
          exact ⟨T12, X12, e12, fun t k => K12 t (by subst hx11; rw [hx14, if_pos hc6] at k; exact k)⟩
        · have K13 : Own.To p e below B0 T2 (mkF m 24 #[vi p0] [(.int 0)]) := fun t k => K5 t (by
            refine Own.icmpYes X2 hx 23 (D d41_10) (flt hc6).2.2.2 (by decide) (by decide) ?_
            refine Own.iconst X2 hx 0 (D d41_23) rfl ?_
            exact k)
          exact ⟨T2, X2, e2, fun t k => K13 t (by rw [hx14, if_neg hc6] at k; exact k)⟩
      exact ⟨T15, X15, e15, fun t k => K15 t (by subst hx14; rw [hx17, if_pos hc4] at k; exact k)⟩
    · have K16 : Own.To p e below B0 T2 (mkF m 24 #[vi p0] [(.int 1)]) := fun t k => K3 t (by
        refine Own.ifYes X2 hx 19 (D d41_4) ((if0 _ _).trans (feq hc4).2) (by decide) (by decide) ?_
        refine Own.iconst X2 hx 1 (D d41_19) rfl ?_
        refine Own.goto X2 hx 24 (D d41_20) (by decide) (by decide) ?_
        exact k)
      exact ⟨T2, X2, e2, fun t k => K16 t (by rw [hx17, if_neg hc4] at k; exact k)⟩
  exact Own.finN X18 hx (BodyLoose.notSynchronized Bd) Bd.returns (by simp) (D d41_24) K18 (by decide) (by decide) ⟨by subst hx17; unfold F41; rfl, rfl, e18⟩

theorem d16_0 : decode J20 0 = .ok (.iload_n 0, 1) := by decide +kernel
theorem d16_1 : decode J20 1 = .ok (.ifCond .ne 16, 3) := by decide +kernel
theorem d16_4 : decode J20 4 = .ok (.iload_n 1, 1) := by decide +kernel
theorem d16_5 : decode J20 5 = .ok (.invokestatic 53, 3) := by decide +kernel
theorem d16_8 : decode J20 8 = .ok (.ifCond .eq 7, 3) := by decide +kernel
theorem d16_11 : decode J20 11 = .ok (.iconst 1, 1) := by decide +kernel
theorem d16_12 : decode J20 12 = .ok (.goto 4, 3) := by decide +kernel
theorem d16_15 : decode J20 15 = .ok (.iconst (-1), 1) := by decide +kernel
theorem d16_16 : decode J20 16 = .ok (.ireturn, 1) := by decide +kernel
theorem d16_17 : decode J20 17 = .ok (.iload_n 0, 1) := by decide +kernel
theorem d16_18 : decode J20 18 = .ok (.iconst 1, 1) := by decide +kernel
theorem d16_19 : decode J20 19 = .ok (.if_icmp .ne 24, 3) := by decide +kernel
theorem d16_22 : decode J20 22 = .ok (.iload_n 1, 1) := by decide +kernel
theorem d16_23 : decode J20 23 = .ok (.invokestatic 57, 3) := by decide +kernel
theorem d16_26 : decode J20 26 = .ok (.ifCond .eq 5, 3) := by decide +kernel
theorem d16_29 : decode J20 29 = .ok (.iconst 1, 1) := by decide +kernel
theorem d16_30 : decode J20 30 = .ok (.ireturn, 1) := by decide +kernel
theorem d16_31 : decode J20 31 = .ok (.iload_n 1, 1) := by decide +kernel
theorem d16_32 : decode J20 32 = .ok (.bipush 47, 2) := by decide +kernel
theorem d16_34 : decode J20 34 = .ok (.if_icmp .ne 7, 3) := by decide +kernel
theorem d16_37 : decode J20 37 = .ok (.iconst 2, 1) := by decide +kernel
theorem d16_38 : decode J20 38 = .ok (.goto 4, 3) := by decide +kernel
theorem d16_41 : decode J20 41 = .ok (.iconst (-1), 1) := by decide +kernel
theorem d16_42 : decode J20 42 = .ok (.ireturn, 1) := by decide +kernel
theorem d16_43 : decode J20 43 = .ok (.iload_n 0, 1) := by decide +kernel
theorem d16_44 : decode J20 44 = .ok (.iconst 2, 1) := by decide +kernel
theorem d16_45 : decode J20 45 = .ok (.if_icmp .ne 16, 3) := by decide +kernel
theorem d16_48 : decode J20 48 = .ok (.iload_n 1, 1) := by decide +kernel
theorem d16_49 : decode J20 49 = .ok (.invokestatic 53, 3) := by decide +kernel
theorem d16_52 : decode J20 52 = .ok (.ifCond .eq 7, 3) := by decide +kernel
theorem d16_55 : decode J20 55 = .ok (.iconst 3, 1) := by decide +kernel
theorem d16_56 : decode J20 56 = .ok (.goto 4, 3) := by decide +kernel
theorem d16_59 : decode J20 59 = .ok (.iconst (-1), 1) := by decide +kernel
theorem d16_60 : decode J20 60 = .ok (.ireturn, 1) := by decide +kernel
theorem d16_61 : decode J20 61 = .ok (.iload_n 0, 1) := by decide +kernel
theorem d16_62 : decode J20 62 = .ok (.iconst 3, 1) := by decide +kernel
theorem d16_63 : decode J20 63 = .ok (.if_icmp .ne 33, 3) := by decide +kernel
theorem d16_66 : decode J20 66 = .ok (.iload_n 1, 1) := by decide +kernel
theorem d16_67 : decode J20 67 = .ok (.invokestatic 57, 3) := by decide +kernel
theorem d16_70 : decode J20 70 = .ok (.ifCond .eq 5, 3) := by decide +kernel
theorem d16_73 : decode J20 73 = .ok (.iconst 3, 1) := by decide +kernel
theorem d16_74 : decode J20 74 = .ok (.ireturn, 1) := by decide +kernel
theorem d16_75 : decode J20 75 = .ok (.iload_n 1, 1) := by decide +kernel
theorem d16_76 : decode J20 76 = .ok (.invokestatic 60, 3) := by decide +kernel
theorem d16_79 : decode J20 79 = .ok (.ifCond .eq 5, 3) := by decide +kernel
theorem d16_82 : decode J20 82 = .ok (.iconst 4, 1) := by decide +kernel
theorem d16_83 : decode J20 83 = .ok (.ireturn, 1) := by decide +kernel
theorem d16_84 : decode J20 84 = .ok (.iload_n 1, 1) := by decide +kernel
theorem d16_85 : decode J20 85 = .ok (.bipush 59, 2) := by decide +kernel
theorem d16_87 : decode J20 87 = .ok (.if_icmp .ne 7, 3) := by decide +kernel
theorem d16_90 : decode J20 90 = .ok (.iconst 5, 1) := by decide +kernel
theorem d16_91 : decode J20 91 = .ok (.goto 4, 3) := by decide +kernel
theorem d16_94 : decode J20 94 = .ok (.iconst (-1), 1) := by decide +kernel
theorem d16_95 : decode J20 95 = .ok (.ireturn, 1) := by decide +kernel
theorem d16_96 : decode J20 96 = .ok (.iload_n 0, 1) := by decide +kernel
theorem d16_97 : decode J20 97 = .ok (.iconst 4, 1) := by decide +kernel
theorem d16_98 : decode J20 98 = .ok (.if_icmp .ne 24, 3) := by decide +kernel
theorem d16_101 : decode J20 101 = .ok (.iload_n 1, 1) := by decide +kernel
theorem d16_102 : decode J20 102 = .ok (.invokestatic 60, 3) := by decide +kernel
theorem d16_105 : decode J20 105 = .ok (.ifCond .eq 5, 3) := by decide +kernel
theorem d16_108 : decode J20 108 = .ok (.iconst 4, 1) := by decide +kernel
theorem d16_109 : decode J20 109 = .ok (.ireturn, 1) := by decide +kernel
theorem d16_110 : decode J20 110 = .ok (.iload_n 1, 1) := by decide +kernel
theorem d16_111 : decode J20 111 = .ok (.bipush 59, 2) := by decide +kernel
theorem d16_113 : decode J20 113 = .ok (.if_icmp .ne 7, 3) := by decide +kernel
theorem d16_116 : decode J20 116 = .ok (.iconst 5, 1) := by decide +kernel
theorem d16_117 : decode J20 117 = .ok (.goto 4, 3) := by decide +kernel
theorem d16_120 : decode J20 120 = .ok (.iconst (-1), 1) := by decide +kernel
theorem d16_121 : decode J20 121 = .ok (.ireturn, 1) := by decide +kernel
theorem d16_122 : decode J20 122 = .ok (.iload_n 0, 1) := by decide +kernel
theorem d16_123 : decode J20 123 = .ok (.iconst 5, 1) := by decide +kernel
theorem d16_124 : decode J20 124 = .ok (.if_icmp .ne 32, 3) := by decide +kernel
theorem d16_127 : decode J20 127 = .ok (.iload_n 1, 1) := by decide +kernel
theorem d16_128 : decode J20 128 = .ok (.invokestatic 60, 3) := by decide +kernel
theorem d16_131 : decode J20 131 = .ok (.ifCond .ne 9, 3) := by decide +kernel
theorem d16_134 : decode J20 134 = .ok (.iload_n 1, 1) := by decide +kernel
theorem d16_135 : decode J20 135 = .ok (.bipush 59, 2) := by decide +kernel
theorem d16_137 : decode J20 137 = .ok (.if_icmp .ne 5, 3) := by decide +kernel
theorem d16_140 : decode J20 140 = .ok (.iconst 5, 1) := by decide +kernel
theorem d16_141 : decode J20 141 = .ok (.ireturn, 1) := by decide +kernel
theorem d16_142 : decode J20 142 = .ok (.iload_n 1, 1) := by decide +kernel
theorem d16_143 : decode J20 143 = .ok (.invokestatic 63, 3) := by decide +kernel
theorem d16_146 : decode J20 146 = .ok (.ifCond .eq 8, 3) := by decide +kernel
theorem d16_149 : decode J20 149 = .ok (.bipush 6, 2) := by decide +kernel
theorem d16_151 : decode J20 151 = .ok (.goto 4, 3) := by decide +kernel
theorem d16_154 : decode J20 154 = .ok (.iconst (-1), 1) := by decide +kernel
theorem d16_155 : decode J20 155 = .ok (.ireturn, 1) := by decide +kernel
theorem d16_156 : decode J20 156 = .ok (.iload_n 0, 1) := by decide +kernel
theorem d16_157 : decode J20 157 = .ok (.bipush 6, 2) := by decide +kernel
theorem d16_159 : decode J20 159 = .ok (.if_icmp .ne 26, 3) := by decide +kernel
theorem d16_162 : decode J20 162 = .ok (.iload_n 1, 1) := by decide +kernel
theorem d16_163 : decode J20 163 = .ok (.invokestatic 63, 3) := by decide +kernel
theorem d16_166 : decode J20 166 = .ok (.ifCond .eq 6, 3) := by decide +kernel
theorem d16_169 : decode J20 169 = .ok (.bipush 6, 2) := by decide +kernel
theorem d16_171 : decode J20 171 = .ok (.ireturn, 1) := by decide +kernel
theorem d16_172 : decode J20 172 = .ok (.iload_n 1, 1) := by decide +kernel
theorem d16_173 : decode J20 173 = .ok (.bipush 61, 2) := by decide +kernel
theorem d16_175 : decode J20 175 = .ok (.if_icmp .ne 8, 3) := by decide +kernel
theorem d16_178 : decode J20 178 = .ok (.bipush 7, 2) := by decide +kernel
theorem d16_180 : decode J20 180 = .ok (.goto 4, 3) := by decide +kernel
theorem d16_183 : decode J20 183 = .ok (.iconst (-1), 1) := by decide +kernel
theorem d16_184 : decode J20 184 = .ok (.ireturn, 1) := by decide +kernel
theorem d16_185 : decode J20 185 = .ok (.iload_n 0, 1) := by decide +kernel
theorem d16_186 : decode J20 186 = .ok (.bipush 7, 2) := by decide +kernel
theorem d16_188 : decode J20 188 = .ok (.if_icmp .ne 26, 3) := by decide +kernel
theorem d16_191 : decode J20 191 = .ok (.iload_n 1, 1) := by decide +kernel
theorem d16_192 : decode J20 192 = .ok (.bipush 34, 2) := by decide +kernel
theorem d16_194 : decode J20 194 = .ok (.if_icmp .ne 6, 3) := by decide +kernel
theorem d16_197 : decode J20 197 = .ok (.bipush 9, 2) := by decide +kernel
theorem d16_199 : decode J20 199 = .ok (.ireturn, 1) := by decide +kernel
theorem d16_200 : decode J20 200 = .ok (.iload_n 1, 1) := by decide +kernel
theorem d16_201 : decode J20 201 = .ok (.invokestatic 63, 3) := by decide +kernel
theorem d16_204 : decode J20 204 = .ok (.ifCond .eq 8, 3) := by decide +kernel
theorem d16_207 : decode J20 207 = .ok (.bipush 8, 2) := by decide +kernel
theorem d16_209 : decode J20 209 = .ok (.goto 4, 3) := by decide +kernel
theorem d16_212 : decode J20 212 = .ok (.iconst (-1), 1) := by decide +kernel
theorem d16_213 : decode J20 213 = .ok (.ireturn, 1) := by decide +kernel
theorem d16_214 : decode J20 214 = .ok (.iload_n 0, 1) := by decide +kernel
theorem d16_215 : decode J20 215 = .ok (.bipush 8, 2) := by decide +kernel
theorem d16_217 : decode J20 217 = .ok (.if_icmp .ne 34, 3) := by decide +kernel
theorem d16_220 : decode J20 220 = .ok (.iload_n 1, 1) := by decide +kernel
theorem d16_221 : decode J20 221 = .ok (.invokestatic 63, 3) := by decide +kernel
theorem d16_224 : decode J20 224 = .ok (.ifCond .eq 6, 3) := by decide +kernel
theorem d16_227 : decode J20 227 = .ok (.bipush 8, 2) := by decide +kernel
theorem d16_229 : decode J20 229 = .ok (.ireturn, 1) := by decide +kernel
theorem d16_230 : decode J20 230 = .ok (.iload_n 1, 1) := by decide +kernel
theorem d16_231 : decode J20 231 = .ok (.invokestatic 60, 3) := by decide +kernel
theorem d16_234 : decode J20 234 = .ok (.ifCond .eq 5, 3) := by decide +kernel
theorem d16_237 : decode J20 237 = .ok (.iconst 4, 1) := by decide +kernel
theorem d16_238 : decode J20 238 = .ok (.ireturn, 1) := by decide +kernel
theorem d16_239 : decode J20 239 = .ok (.iload_n 1, 1) := by decide +kernel
theorem d16_240 : decode J20 240 = .ok (.bipush 59, 2) := by decide +kernel
theorem d16_242 : decode J20 242 = .ok (.if_icmp .ne 7, 3) := by decide +kernel
theorem d16_245 : decode J20 245 = .ok (.iconst 5, 1) := by decide +kernel
theorem d16_246 : decode J20 246 = .ok (.goto 4, 3) := by decide +kernel
theorem d16_249 : decode J20 249 = .ok (.iconst (-1), 1) := by decide +kernel
theorem d16_250 : decode J20 250 = .ok (.ireturn, 1) := by decide +kernel
theorem d16_251 : decode J20 251 = .ok (.iload_n 0, 1) := by decide +kernel
theorem d16_252 : decode J20 252 = .ok (.bipush 9, 2) := by decide +kernel
theorem d16_254 : decode J20 254 = .ok (.if_icmp .ne 35, 3) := by decide +kernel
theorem d16_257 : decode J20 257 = .ok (.iload_n 1, 1) := by decide +kernel
theorem d16_258 : decode J20 258 = .ok (.bipush 34, 2) := by decide +kernel
theorem d16_260 : decode J20 260 = .ok (.if_icmp .ne 6, 3) := by decide +kernel
theorem d16_263 : decode J20 263 = .ok (.bipush 10, 2) := by decide +kernel
theorem d16_265 : decode J20 265 = .ok (.ireturn, 1) := by decide +kernel
theorem d16_266 : decode J20 266 = .ok (.iload_n 1, 1) := by decide +kernel
theorem d16_267 : decode J20 267 = .ok (.bipush 92, 2) := by decide +kernel
theorem d16_269 : decode J20 269 = .ok (.if_icmp .ne 6, 3) := by decide +kernel
theorem d16_272 : decode J20 272 = .ok (.bipush 11, 2) := by decide +kernel
theorem d16_274 : decode J20 274 = .ok (.ireturn, 1) := by decide +kernel
theorem d16_275 : decode J20 275 = .ok (.iload_n 1, 1) := by decide +kernel
theorem d16_276 : decode J20 276 = .ok (.invokestatic 66, 3) := by decide +kernel
theorem d16_279 : decode J20 279 = .ok (.ifCond .eq 8, 3) := by decide +kernel
theorem d16_282 : decode J20 282 = .ok (.bipush 9, 2) := by decide +kernel
theorem d16_284 : decode J20 284 = .ok (.goto 4, 3) := by decide +kernel
theorem d16_287 : decode J20 287 = .ok (.iconst (-1), 1) := by decide +kernel
theorem d16_288 : decode J20 288 = .ok (.ireturn, 1) := by decide +kernel
theorem d16_289 : decode J20 289 = .ok (.iload_n 0, 1) := by decide +kernel
theorem d16_290 : decode J20 290 = .ok (.bipush 11, 2) := by decide +kernel
theorem d16_292 : decode J20 292 = .ok (.if_icmp .ne 17, 3) := by decide +kernel
theorem d16_295 : decode J20 295 = .ok (.iload_n 1, 1) := by decide +kernel
theorem d16_296 : decode J20 296 = .ok (.invokestatic 66, 3) := by decide +kernel
theorem d16_299 : decode J20 299 = .ok (.ifCond .eq 8, 3) := by decide +kernel
theorem d16_302 : decode J20 302 = .ok (.bipush 9, 2) := by decide +kernel
theorem d16_304 : decode J20 304 = .ok (.goto 4, 3) := by decide +kernel
theorem d16_307 : decode J20 307 = .ok (.iconst (-1), 1) := by decide +kernel
theorem d16_308 : decode J20 308 = .ok (.ireturn, 1) := by decide +kernel
theorem d16_309 : decode J20 309 = .ok (.iload_n 0, 1) := by decide +kernel
theorem d16_310 : decode J20 310 = .ok (.bipush 10, 2) := by decide +kernel
theorem d16_312 : decode J20 312 = .ok (.if_icmp .ne 24, 3) := by decide +kernel
theorem d16_315 : decode J20 315 = .ok (.iload_n 1, 1) := by decide +kernel
theorem d16_316 : decode J20 316 = .ok (.invokestatic 60, 3) := by decide +kernel
theorem d16_319 : decode J20 319 = .ok (.ifCond .eq 5, 3) := by decide +kernel
theorem d16_322 : decode J20 322 = .ok (.iconst 4, 1) := by decide +kernel
theorem d16_323 : decode J20 323 = .ok (.ireturn, 1) := by decide +kernel
theorem d16_324 : decode J20 324 = .ok (.iload_n 1, 1) := by decide +kernel
theorem d16_325 : decode J20 325 = .ok (.bipush 59, 2) := by decide +kernel
theorem d16_327 : decode J20 327 = .ok (.if_icmp .ne 7, 3) := by decide +kernel
theorem d16_330 : decode J20 330 = .ok (.iconst 5, 1) := by decide +kernel
theorem d16_331 : decode J20 331 = .ok (.goto 4, 3) := by decide +kernel
theorem d16_334 : decode J20 334 = .ok (.iconst (-1), 1) := by decide +kernel
theorem d16_335 : decode J20 335 = .ok (.ireturn, 1) := by decide +kernel
theorem d16_336 : decode J20 336 = .ok (.iconst (-1), 1) := by decide +kernel
theorem d16_337 : decode J20 337 = .ok (.ireturn, 1) := by decide +kernel
theorem ef_16 (m : MethodId) (p0 : Int32) (p1 : Int32) : entryFrame m #[(.int p0), (.int p1)] 2 = mkF m 0 #[.val (.int p0), .val (.int p1)] [] := by first | (simp [entryFrame, mkF, argsToLocals, Value.category]; done) | rfl
def F16 (p0 : Int32) (p1 : Int32) : Int32 := (if p0 = (0 : Int32) then (if (F17 p1) = (0 : Int32) then (-1 : Int32) else (1 : Int32)) else (if p0 = (1 : Int32) then (if (F25 p1) = (0 : Int32) then (if p1 = (47 : Int32) then (2 : Int32) else (-1 : Int32)) else (1 : Int32)) else (if p0 = (2 : Int32) then (if (F17 p1) = (0 : Int32) then (-1 : Int32) else (3 : Int32)) else (if p0 = (3 : Int32) then (if (F25 p1) = (0 : Int32) then (if (F28 p1) = (0 : Int32) then (if p1 = (59 : Int32) then (5 : Int32) else (-1 : Int32)) else (4 : Int32)) else (3 : Int32)) else (if p0 = (4 : Int32) then (if (F28 p1) = (0 : Int32) then (if p1 = (59 : Int32) then (5 : Int32) else (-1 : Int32)) else (4 : Int32)) else (if p0 = (5 : Int32) then (if (F28 p1) = (0 : Int32) then (if p1 = (59 : Int32) then (5 : Int32) else (if (F29 p1) = (0 : Int32) then (-1 : Int32) else (6 : Int32))) else (5 : Int32)) else (if p0 = (6 : Int32) then (if (F29 p1) = (0 : Int32) then (if p1 = (61 : Int32) then (7 : Int32) else (-1 : Int32)) else (6 : Int32)) else (if p0 = (7 : Int32) then (if p1 = (34 : Int32) then (9 : Int32) else (if (F29 p1) = (0 : Int32) then (-1 : Int32) else (8 : Int32))) else (if p0 = (8 : Int32) then (if (F29 p1) = (0 : Int32) then (if (F28 p1) = (0 : Int32) then (if p1 = (59 : Int32) then (5 : Int32) else (-1 : Int32)) else (4 : Int32)) else (8 : Int32)) else (if p0 = (9 : Int32) then (if p1 = (34 : Int32) then (10 : Int32) else (if p1 = (92 : Int32) then (11 : Int32) else (if (F41 p1) = (0 : Int32) then (-1 : Int32) else (9 : Int32)))) else (if p0 = (11 : Int32) then (if (F41 p1) = (0 : Int32) then (-1 : Int32) else (9 : Int32)) else (if p0 = (10 : Int32) then (if (F28 p1) = (0 : Int32) then (if p1 = (59 : Int32) then (5 : Int32) else (-1 : Int32)) else (4 : Int32)) else (-1 : Int32)))))))))))))
set_option maxRecDepth 65536 in
set_option maxHeartbeats 40000000 in
theorem c16 (l : Launch) (Z : State) (a0 : Array Value) (hw : ∀ d ∈ tables_1, d.before a0 Z = true) (p0 : Int32) (p1 : Int32) (h0 : Heap) : Own.Con l Z (⟨"com/example/pliktflow/pliktflow/deposit/MediaTypeIsWellFormedPinLaw", "step", "(IC)I"⟩ : MethodName) method_8_code 2 (some .int) ({ frames := 3, cells := 0, slots := 0, locals := 36 } : Room) #[(.int p0), (.int p1)] h0 (Own.Pure (.int (F16 p0 p1)) h0) := by
  intro ws
  refine MetFree.of_bodySF (plainFor_of_name pn_1) hisR ?_
  intro p e s m args below meth c s₁ Bd hml0 hP hK
  obtain ⟨rfl, hZ, hh⟩ := hP
  have hx := Bd.exec
  have hby := Bd.bytes
  have D := fun {n : Nat} {i} (d : decode method_8_code n = .ok i) => hb hby d
  have hml : c.maxLocals = 2 := hml0
  have hown : s.vm.findClass "com/example/pliktflow/pliktflow/deposit/MediaTypeIsWellFormedPinLaw" = some m.cls := findClass_of_methodNamed Bd.named
  have hnm := (name_of_methodNamed Bd.named Bd.method).1
  have X0 : Stand p l e ({ frames := 3, cells := 0, slots := 0, locals := 36 } : Room) s m #[(.int p0), (.int p1)] below meth c s₁ [] 0 0 := Stand.of_body Bd
  have e0 : s₁.heap = h0 := by rw [← hh, Bd.state]; rfl
  have K0 : ∀ t, Steps p.tables e below (s₁.setTop (mkF m 0 #[vi p0, vi p1] [])) t → Steps p.tables e below (s₁.setTop (entryFrame m #[(.int p0), (.int p1)] 2)) t := fun t k => castTop (ef_16 m p0 p1) k
  generalize s₁.setTop (entryFrame m #[(.int p0), (.int p1)] 2) = B0 at K0 ⊢
  show Own.Fin p e below B0 s (({ frames := 3, cells := 0, slots := 0, locals := 36 } : Room)).cells (({ frames := 3, cells := 0, slots := 0, locals := 36 } : Room)).slots (Own.Pure (.int (F16 p0 p1)) h0)
  have K1 : Own.To p e below B0 s₁ (mkF m 1 #[vi p0, vi p1] [(.int p0)]) := fun t k => K0 t (by
    refine Own.iloadN X0 hx (D d16_0) rfl ?_
    exact k)
  by_cases hc2 : p0 = (0 : Int32)
  · have K3 : Own.To p e below B0 s₁ (mkF m 5 #[vi p0, vi p1] [(.int p1)]) := fun t k => K1 t (by
      refine Own.ifNo X0 hx (D d16_1) ((if0 _ _).trans (teq hc2).2) ?_
      refine Own.iloadN X0 hx (D d16_4) rfl ?_
      exact k)
    obtain ⟨T4, X4, e4, st4⟩ := Own.callP (Ls := #[vi p0, vi p1]) X0 hx hZ e0 [(.int p1)] [] (c17 l Z a0 hw p1  h0 ) hown (W_ hw 74 rfl) (W_ hw 75 rfl) (W_ hw 4 rfl) (W_ hw 76 rfl) (by decide) 0 rfl rfl (by decide) (by decide) (by decide) (by decide) (szOf hml rfl) (lenOf pd_3 rfl) rfl (Nat.le_of_eq rfl) (D d16_5)
    have K5 := fun t k => K3 t (st4 t k)
    obtain ⟨x9, hx9⟩ : ∃ z : Int32, z = (if (F17 p1) = (0 : Int32) then (-1 : Int32) else (1 : Int32)) := ⟨_, rfl⟩
    obtain ⟨T10, X10, e10, K10⟩ : ∃ T' : State, Stand p l e ({ frames := 3, cells := 0, slots := 0, locals := 36 } : Room) s m #[(.int p0), (.int p1)] below meth c T' [] 0 0 ∧ T'.heap = h0 ∧ Own.To p e below B0 T' (mkF m 16 #[vi p0, vi p1] [(.int x9)]) := by
      by_cases hc6 : (F17 p1) = (0 : Int32)
      · have K7 : Own.To p e below B0 T4 (mkF m 16 #[vi p0, vi p1] [(.int (-1))]) := fun t k => K5 t (by
          refine Own.ifYes X4 hx 15 (D d16_8) ((if0 _ _).trans (teq hc6).1) (by decide) (by decide) ?_
          refine Own.iconst X4 hx (-1 : Int32) (D d16_15) rfl ?_
          exact k)
        exact ⟨T4, X4, e4, fun t k => K7 t (by rw [hx9, if_pos hc6] at k; exact k)⟩
      · have K8 : Own.To p e below B0 T4 (mkF m 16 #[vi p0, vi p1] [(.int 1)]) := fun t k => K5 t (by
          refine Own.ifNo X4 hx (D d16_8) ((if0 _ _).trans (feq hc6).1) ?_
          refine Own.iconst X4 hx 1 (D d16_11) rfl ?_
          refine Own.goto X4 hx 16 (D d16_12) (by decide) (by decide) ?_
          exact k)
        exact ⟨T4, X4, e4, fun t k => K8 t (by rw [hx9, if_neg hc6] at k; exact k)⟩
    exact Own.finI X10 hx (BodyLoose.notSynchronized Bd) Bd.returns (D d16_16) K10 (by decide) (by decide) ⟨by subst hx9; unfold F16; first | (rw [if_pos hc2]; done) | (rw [if_pos hc2]; rfl), rfl, e10⟩
  · have K11 : Own.To p e below B0 s₁ (mkF m 19 #[vi p0, vi p1] [(.int 1), (.int p0)]) := fun t k => K1 t (by
      refine Own.ifYes X0 hx 17 (D d16_1) ((if0 _ _).trans (feq hc2).2) (by decide) (by decide) ?_
      refine Own.iloadN X0 hx (D d16_17) rfl ?_
      refine Own.iconst X0 hx 1 (D d16_18) rfl ?_
      exact k)
    by_cases hc12 : p0 = (1 : Int32)
    · have K13 : Own.To p e below B0 s₁ (mkF m 23 #[vi p0, vi p1] [(.int p1)]) := fun t k => K11 t (by
        refine Own.icmpNo X0 hx (D d16_19) (teq hc12).2 ?_
        refine Own.iloadN X0 hx (D d16_22) rfl ?_
        exact k)
      obtain ⟨T14, X14, e14, st14⟩ := Own.callP (Ls := #[vi p0, vi p1]) X0 hx hZ e0 [(.int p1)] [] (c25 l Z a0 hw p1  h0 ) hown (W_ hw 105 rfl) (W_ hw 106 rfl) (W_ hw 4 rfl) (W_ hw 107 rfl) (by decide) 0 rfl rfl (by decide) (by decide) (by decide) (by decide) (szOf hml rfl) (lenOf pd_3 rfl) rfl (Nat.le_of_eq rfl) (D d16_23)
      have K15 := fun t k => K13 t (st14 t k)
      by_cases hc16 : (F25 p1) = (0 : Int32)
      · have K17 : Own.To p e below B0 T14 (mkF m 34 #[vi p0, vi p1] [(.int 47), (.int p1)]) := fun t k => K15 t (by
          refine Own.ifYes X14 hx 31 (D d16_26) ((if0 _ _).trans (teq hc16).1) (by decide) (by decide) ?_
          refine Own.iloadN X14 hx (D d16_31) rfl ?_
          refine Own.bipush X14 hx 47 (D d16_32) rfl ?_
          exact k)
        obtain ⟨x21, hx21⟩ : ∃ z : Int32, z = (if p1 = (47 : Int32) then (2 : Int32) else (-1 : Int32)) := ⟨_, rfl⟩
        obtain ⟨T22, X22, e22, K22⟩ : ∃ T' : State, Stand p l e ({ frames := 3, cells := 0, slots := 0, locals := 36 } : Room) s m #[(.int p0), (.int p1)] below meth c T' [] 0 0 ∧ T'.heap = h0 ∧ Own.To p e below B0 T' (mkF m 42 #[vi p0, vi p1] [(.int x21)]) := by
          by_cases hc18 : p1 = (47 : Int32)
          · have K19 : Own.To p e below B0 T14 (mkF m 42 #[vi p0, vi p1] [(.int 2)]) := fun t k => K17 t (by
              refine Own.icmpNo X14 hx (D d16_34) (teq hc18).2 ?_
              refine Own.iconst X14 hx 2 (D d16_37) rfl ?_
              refine Own.goto X14 hx 42 (D d16_38) (by decide) (by decide) ?_
              exact k)
            exact ⟨T14, X14, e14, fun t k => K19 t (by rw [hx21, if_pos hc18] at k; exact k)⟩
          · have K20 : Own.To p e below B0 T14 (mkF m 42 #[vi p0, vi p1] [(.int (-1))]) := fun t k => K17 t (by
              refine Own.icmpYes X14 hx 41 (D d16_34) (feq hc18).2 (by decide) (by decide) ?_
              refine Own.iconst X14 hx (-1 : Int32) (D d16_41) rfl ?_
              exact k)
            exact ⟨T14, X14, e14, fun t k => K20 t (by rw [hx21, if_neg hc18] at k; exact k)⟩
        exact Own.finI X22 hx (BodyLoose.notSynchronized Bd) Bd.returns (D d16_42) K22 (by decide) (by decide) ⟨by subst hx21; unfold F16; first | (rw [if_neg hc2, if_pos hc12, if_pos hc16]; done) | (rw [if_neg hc2, if_pos hc12, if_pos hc16]; rfl), rfl, e22⟩
      · have K23 : Own.To p e below B0 T14 (mkF m 30 #[vi p0, vi p1] [(.int 1)]) := fun t k => K15 t (by
          refine Own.ifNo X14 hx (D d16_26) ((if0 _ _).trans (feq hc16).1) ?_
          refine Own.iconst X14 hx 1 (D d16_29) rfl ?_
          exact k)
        exact Own.finI X14 hx (BodyLoose.notSynchronized Bd) Bd.returns (D d16_30) K23 (by decide) (by decide) ⟨by unfold F16; first | (rw [if_neg hc2, if_pos hc12, if_neg hc16]; done) | (rw [if_neg hc2, if_pos hc12, if_neg hc16]; rfl), rfl, e14⟩
    · have K24 : Own.To p e below B0 s₁ (mkF m 45 #[vi p0, vi p1] [(.int 2), (.int p0)]) := fun t k => K11 t (by
        refine Own.icmpYes X0 hx 43 (D d16_19) (feq hc12).2 (by decide) (by decide) ?_
        refine Own.iloadN X0 hx (D d16_43) rfl ?_
        refine Own.iconst X0 hx 2 (D d16_44) rfl ?_
        exact k)
      by_cases hc25 : p0 = (2 : Int32)
      · have K26 : Own.To p e below B0 s₁ (mkF m 49 #[vi p0, vi p1] [(.int p1)]) := fun t k => K24 t (by
          refine Own.icmpNo X0 hx (D d16_45) (teq hc25).2 ?_
          refine Own.iloadN X0 hx (D d16_48) rfl ?_
          exact k)
        obtain ⟨T27, X27, e27, st27⟩ := Own.callP (Ls := #[vi p0, vi p1]) X0 hx hZ e0 [(.int p1)] [] (c17 l Z a0 hw p1  h0 ) hown (W_ hw 74 rfl) (W_ hw 75 rfl) (W_ hw 4 rfl) (W_ hw 76 rfl) (by decide) 0 rfl rfl (by decide) (by decide) (by decide) (by decide) (szOf hml rfl) (lenOf pd_3 rfl) rfl (Nat.le_of_eq rfl) (D d16_49)
        have K28 := fun t k => K26 t (st27 t k)
        obtain ⟨x32, hx32⟩ : ∃ z : Int32, z = (if (F17 p1) = (0 : Int32) then (-1 : Int32) else (3 : Int32)) := ⟨_, rfl⟩
        obtain ⟨T33, X33, e33, K33⟩ : ∃ T' : State, Stand p l e ({ frames := 3, cells := 0, slots := 0, locals := 36 } : Room) s m #[(.int p0), (.int p1)] below meth c T' [] 0 0 ∧ T'.heap = h0 ∧ Own.To p e below B0 T' (mkF m 60 #[vi p0, vi p1] [(.int x32)]) := by
          by_cases hc29 : (F17 p1) = (0 : Int32)
          · have K30 : Own.To p e below B0 T27 (mkF m 60 #[vi p0, vi p1] [(.int (-1))]) := fun t k => K28 t (by
              refine Own.ifYes X27 hx 59 (D d16_52) ((if0 _ _).trans (teq hc29).1) (by decide) (by decide) ?_
              refine Own.iconst X27 hx (-1 : Int32) (D d16_59) rfl ?_
              exact k)
            exact ⟨T27, X27, e27, fun t k => K30 t (by rw [hx32, if_pos hc29] at k; exact k)⟩
          · have K31 : Own.To p e below B0 T27 (mkF m 60 #[vi p0, vi p1] [(.int 3)]) := fun t k => K28 t (by
              refine Own.ifNo X27 hx (D d16_52) ((if0 _ _).trans (feq hc29).1) ?_
              refine Own.iconst X27 hx 3 (D d16_55) rfl ?_
              refine Own.goto X27 hx 60 (D d16_56) (by decide) (by decide) ?_
              exact k)
            exact ⟨T27, X27, e27, fun t k => K31 t (by rw [hx32, if_neg hc29] at k; exact k)⟩
        exact Own.finI X33 hx (BodyLoose.notSynchronized Bd) Bd.returns (D d16_60) K33 (by decide) (by decide) ⟨by subst hx32; unfold F16; first | (rw [if_neg hc2, if_neg hc12, if_pos hc25]; done) | (rw [if_neg hc2, if_neg hc12, if_pos hc25]; rfl), rfl, e33⟩
      · have K34 : Own.To p e below B0 s₁ (mkF m 63 #[vi p0, vi p1] [(.int 3), (.int p0)]) := fun t k => K24 t (by
          refine Own.icmpYes X0 hx 61 (D d16_45) (feq hc25).2 (by decide) (by decide) ?_
          refine Own.iloadN X0 hx (D d16_61) rfl ?_
          refine Own.iconst X0 hx 3 (D d16_62) rfl ?_
          exact k)
        by_cases hc35 : p0 = (3 : Int32)
        · have K36 : Own.To p e below B0 s₁ (mkF m 67 #[vi p0, vi p1] [(.int p1)]) := fun t k => K34 t (by
            refine Own.icmpNo X0 hx (D d16_63) (teq hc35).2 ?_
            refine Own.iloadN X0 hx (D d16_66) rfl ?_
            exact k)
          obtain ⟨T37, X37, e37, st37⟩ := Own.callP (Ls := #[vi p0, vi p1]) X0 hx hZ e0 [(.int p1)] [] (c25 l Z a0 hw p1  h0 ) hown (W_ hw 105 rfl) (W_ hw 106 rfl) (W_ hw 4 rfl) (W_ hw 107 rfl) (by decide) 0 rfl rfl (by decide) (by decide) (by decide) (by decide) (szOf hml rfl) (lenOf pd_3 rfl) rfl (Nat.le_of_eq rfl) (D d16_67)
          have K38 := fun t k => K36 t (st37 t k)
          by_cases hc39 : (F25 p1) = (0 : Int32)
          · have K40 : Own.To p e below B0 T37 (mkF m 76 #[vi p0, vi p1] [(.int p1)]) := fun t k => K38 t (by
              refine Own.ifYes X37 hx 75 (D d16_70) ((if0 _ _).trans (teq hc39).1) (by decide) (by decide) ?_
              refine Own.iloadN X37 hx (D d16_75) rfl ?_
              exact k)
            obtain ⟨T41, X41, e41, st41⟩ := Own.callP (Ls := #[vi p0, vi p1]) X37 hx hZ e37 [(.int p1)] [] (c28 l Z a0 hw p1  h0 ) hown (W_ hw 115 rfl) (W_ hw 116 rfl) (W_ hw 4 rfl) (W_ hw 117 rfl) (by decide) 0 rfl rfl (by decide) (by decide) (by decide) (by decide) (szOf hml rfl) (lenOf pd_3 rfl) rfl (Nat.le_of_eq rfl) (D d16_76)
            have K42 := fun t k => K40 t (st41 t k)
            by_cases hc43 : (F28 p1) = (0 : Int32)
            · have K44 : Own.To p e below B0 T41 (mkF m 87 #[vi p0, vi p1] [(.int 59), (.int p1)]) := fun t k => K42 t (by
                refine Own.ifYes X41 hx 84 (D d16_79) ((if0 _ _).trans (teq hc43).1) (by decide) (by decide) ?_
                refine Own.iloadN X41 hx (D d16_84) rfl ?_
                refine Own.bipush X41 hx 59 (D d16_85) rfl ?_
                exact k)
              obtain ⟨x48, hx48⟩ : ∃ z : Int32, z = (if p1 = (59 : Int32) then (5 : Int32) else (-1 : Int32)) := ⟨_, rfl⟩
              obtain ⟨T49, X49, e49, K49⟩ : ∃ T' : State, Stand p l e ({ frames := 3, cells := 0, slots := 0, locals := 36 } : Room) s m #[(.int p0), (.int p1)] below meth c T' [] 0 0 ∧ T'.heap = h0 ∧ Own.To p e below B0 T' (mkF m 95 #[vi p0, vi p1] [(.int x48)]) := by
                by_cases hc45 : p1 = (59 : Int32)
                · have K46 : Own.To p e below B0 T41 (mkF m 95 #[vi p0, vi p1] [(.int 5)]) := fun t k => K44 t (by
                    refine Own.icmpNo X41 hx (D d16_87) (teq hc45).2 ?_
                    refine Own.iconst X41 hx 5 (D d16_90) rfl ?_
                    refine Own.goto X41 hx 95 (D d16_91) (by decide) (by decide) ?_
                    exact k)
                  exact ⟨T41, X41, e41, fun t k => K46 t (by rw [hx48, if_pos hc45] at k; exact k)⟩
                · have K47 : Own.To p e below B0 T41 (mkF m 95 #[vi p0, vi p1] [(.int (-1))]) := fun t k => K44 t (by
                    refine Own.icmpYes X41 hx 94 (D d16_87) (feq hc45).2 (by decide) (by decide) ?_
                    refine Own.iconst X41 hx (-1 : Int32) (D d16_94) rfl ?_
                    exact k)
                  exact ⟨T41, X41, e41, fun t k => K47 t (by rw [hx48, if_neg hc45] at k; exact k)⟩
              exact Own.finI X49 hx (BodyLoose.notSynchronized Bd) Bd.returns (D d16_95) K49 (by decide) (by decide) ⟨by subst hx48; unfold F16; first | (rw [if_neg hc2, if_neg hc12, if_neg hc25, if_pos hc35, if_pos hc39, if_pos hc43]; done) | (rw [if_neg hc2, if_neg hc12, if_neg hc25, if_pos hc35, if_pos hc39, if_pos hc43]; rfl), rfl, e49⟩
            · have K50 : Own.To p e below B0 T41 (mkF m 83 #[vi p0, vi p1] [(.int 4)]) := fun t k => K42 t (by
                refine Own.ifNo X41 hx (D d16_79) ((if0 _ _).trans (feq hc43).1) ?_
                refine Own.iconst X41 hx 4 (D d16_82) rfl ?_
                exact k)
              exact Own.finI X41 hx (BodyLoose.notSynchronized Bd) Bd.returns (D d16_83) K50 (by decide) (by decide) ⟨by unfold F16; first | (rw [if_neg hc2, if_neg hc12, if_neg hc25, if_pos hc35, if_pos hc39, if_neg hc43]; done) | (rw [if_neg hc2, if_neg hc12, if_neg hc25, if_pos hc35, if_pos hc39, if_neg hc43]; rfl), rfl, e41⟩
          · have K51 : Own.To p e below B0 T37 (mkF m 74 #[vi p0, vi p1] [(.int 3)]) := fun t k => K38 t (by
              refine Own.ifNo X37 hx (D d16_70) ((if0 _ _).trans (feq hc39).1) ?_
              refine Own.iconst X37 hx 3 (D d16_73) rfl ?_
              exact k)
            exact Own.finI X37 hx (BodyLoose.notSynchronized Bd) Bd.returns (D d16_74) K51 (by decide) (by decide) ⟨by unfold F16; first | (rw [if_neg hc2, if_neg hc12, if_neg hc25, if_pos hc35, if_neg hc39]; done) | (rw [if_neg hc2, if_neg hc12, if_neg hc25, if_pos hc35, if_neg hc39]; rfl), rfl, e37⟩
        · have K52 : Own.To p e below B0 s₁ (mkF m 98 #[vi p0, vi p1] [(.int 4), (.int p0)]) := fun t k => K34 t (by
            refine Own.icmpYes X0 hx 96 (D d16_63) (feq hc35).2 (by decide) (by decide) ?_
            refine Own.iloadN X0 hx (D d16_96) rfl ?_
            refine Own.iconst X0 hx 4 (D d16_97) rfl ?_
            exact k)
          by_cases hc53 : p0 = (4 : Int32)
          · have K54 : Own.To p e below B0 s₁ (mkF m 102 #[vi p0, vi p1] [(.int p1)]) := fun t k => K52 t (by
              refine Own.icmpNo X0 hx (D d16_98) (teq hc53).2 ?_
              refine Own.iloadN X0 hx (D d16_101) rfl ?_
              exact k)
            obtain ⟨T55, X55, e55, st55⟩ := Own.callP (Ls := #[vi p0, vi p1]) X0 hx hZ e0 [(.int p1)] [] (c28 l Z a0 hw p1  h0 ) hown (W_ hw 115 rfl) (W_ hw 116 rfl) (W_ hw 4 rfl) (W_ hw 117 rfl) (by decide) 0 rfl rfl (by decide) (by decide) (by decide) (by decide) (szOf hml rfl) (lenOf pd_3 rfl) rfl (Nat.le_of_eq rfl) (D d16_102)
            have K56 := fun t k => K54 t (st55 t k)
            by_cases hc57 : (F28 p1) = (0 : Int32)
            · have K58 : Own.To p e below B0 T55 (mkF m 113 #[vi p0, vi p1] [(.int 59), (.int p1)]) := fun t k => K56 t (by
                refine Own.ifYes X55 hx 110 (D d16_105) ((if0 _ _).trans (teq hc57).1) (by decide) (by decide) ?_
                refine Own.iloadN X55 hx (D d16_110) rfl ?_
                refine Own.bipush X55 hx 59 (D d16_111) rfl ?_
                exact k)
              obtain ⟨x62, hx62⟩ : ∃ z : Int32, z = (if p1 = (59 : Int32) then (5 : Int32) else (-1 : Int32)) := ⟨_, rfl⟩
              obtain ⟨T63, X63, e63, K63⟩ : ∃ T' : State, Stand p l e ({ frames := 3, cells := 0, slots := 0, locals := 36 } : Room) s m #[(.int p0), (.int p1)] below meth c T' [] 0 0 ∧ T'.heap = h0 ∧ Own.To p e below B0 T' (mkF m 121 #[vi p0, vi p1] [(.int x62)]) := by
                by_cases hc59 : p1 = (59 : Int32)
                · have K60 : Own.To p e below B0 T55 (mkF m 121 #[vi p0, vi p1] [(.int 5)]) := fun t k => K58 t (by
                    refine Own.icmpNo X55 hx (D d16_113) (teq hc59).2 ?_
                    refine Own.iconst X55 hx 5 (D d16_116) rfl ?_
                    refine Own.goto X55 hx 121 (D d16_117) (by decide) (by decide) ?_
                    exact k)
                  exact ⟨T55, X55, e55, fun t k => K60 t (by rw [hx62, if_pos hc59] at k; exact k)⟩
                · have K61 : Own.To p e below B0 T55 (mkF m 121 #[vi p0, vi p1] [(.int (-1))]) := fun t k => K58 t (by
                    refine Own.icmpYes X55 hx 120 (D d16_113) (feq hc59).2 (by decide) (by decide) ?_
                    refine Own.iconst X55 hx (-1 : Int32) (D d16_120) rfl ?_
                    exact k)
                  exact ⟨T55, X55, e55, fun t k => K61 t (by rw [hx62, if_neg hc59] at k; exact k)⟩
              exact Own.finI X63 hx (BodyLoose.notSynchronized Bd) Bd.returns (D d16_121) K63 (by decide) (by decide) ⟨by subst hx62; unfold F16; first | (rw [if_neg hc2, if_neg hc12, if_neg hc25, if_neg hc35, if_pos hc53, if_pos hc57]; done) | (rw [if_neg hc2, if_neg hc12, if_neg hc25, if_neg hc35, if_pos hc53, if_pos hc57]; rfl), rfl, e63⟩
            · have K64 : Own.To p e below B0 T55 (mkF m 109 #[vi p0, vi p1] [(.int 4)]) := fun t k => K56 t (by
                refine Own.ifNo X55 hx (D d16_105) ((if0 _ _).trans (feq hc57).1) ?_
                refine Own.iconst X55 hx 4 (D d16_108) rfl ?_
                exact k)
              exact Own.finI X55 hx (BodyLoose.notSynchronized Bd) Bd.returns (D d16_109) K64 (by decide) (by decide) ⟨by unfold F16; first | (rw [if_neg hc2, if_neg hc12, if_neg hc25, if_neg hc35, if_pos hc53, if_neg hc57]; done) | (rw [if_neg hc2, if_neg hc12, if_neg hc25, if_neg hc35, if_pos hc53, if_neg hc57]; rfl), rfl, e55⟩
          · have K65 : Own.To p e below B0 s₁ (mkF m 124 #[vi p0, vi p1] [(.int 5), (.int p0)]) := fun t k => K52 t (by
              refine Own.icmpYes X0 hx 122 (D d16_98) (feq hc53).2 (by decide) (by decide) ?_
              refine Own.iloadN X0 hx (D d16_122) rfl ?_
              refine Own.iconst X0 hx 5 (D d16_123) rfl ?_
              exact k)
            by_cases hc66 : p0 = (5 : Int32)
            · have K67 : Own.To p e below B0 s₁ (mkF m 128 #[vi p0, vi p1] [(.int p1)]) := fun t k => K65 t (by
                refine Own.icmpNo X0 hx (D d16_124) (teq hc66).2 ?_
                refine Own.iloadN X0 hx (D d16_127) rfl ?_
                exact k)
              obtain ⟨T68, X68, e68, st68⟩ := Own.callP (Ls := #[vi p0, vi p1]) X0 hx hZ e0 [(.int p1)] [] (c28 l Z a0 hw p1  h0 ) hown (W_ hw 115 rfl) (W_ hw 116 rfl) (W_ hw 4 rfl) (W_ hw 117 rfl) (by decide) 0 rfl rfl (by decide) (by decide) (by decide) (by decide) (szOf hml rfl) (lenOf pd_3 rfl) rfl (Nat.le_of_eq rfl) (D d16_128)
              have K69 := fun t k => K67 t (st68 t k)
              by_cases hc70 : (F28 p1) = (0 : Int32)
              · have K71 : Own.To p e below B0 T68 (mkF m 137 #[vi p0, vi p1] [(.int 59), (.int p1)]) := fun t k => K69 t (by
                  refine Own.ifNo X68 hx (D d16_131) ((if0 _ _).trans (teq hc70).2) ?_
                  refine Own.iloadN X68 hx (D d16_134) rfl ?_
                  refine Own.bipush X68 hx 59 (D d16_135) rfl ?_
                  exact k)
                by_cases hc72 : p1 = (59 : Int32)
                · have K73 : Own.To p e below B0 T68 (mkF m 141 #[vi p0, vi p1] [(.int 5)]) := fun t k => K71 t (by
                    refine Own.icmpNo X68 hx (D d16_137) (teq hc72).2 ?_
                    refine Own.iconst X68 hx 5 (D d16_140) rfl ?_
                    exact k)
                  exact Own.finI X68 hx (BodyLoose.notSynchronized Bd) Bd.returns (D d16_141) K73 (by decide) (by decide) ⟨by unfold F16; first | (rw [if_neg hc2, if_neg hc12, if_neg hc25, if_neg hc35, if_neg hc53, if_pos hc66, if_pos hc70, if_pos hc72]; done) | (rw [if_neg hc2, if_neg hc12, if_neg hc25, if_neg hc35, if_neg hc53, if_pos hc66, if_pos hc70, if_pos hc72]; rfl), rfl, e68⟩
                · have K74 : Own.To p e below B0 T68 (mkF m 143 #[vi p0, vi p1] [(.int p1)]) := fun t k => K71 t (by
                    refine Own.icmpYes X68 hx 142 (D d16_137) (feq hc72).2 (by decide) (by decide) ?_
                    refine Own.iloadN X68 hx (D d16_142) rfl ?_
                    exact k)
                  obtain ⟨T75, X75, e75, st75⟩ := Own.callP (Ls := #[vi p0, vi p1]) X68 hx hZ e68 [(.int p1)] [] (c29 l Z a0 hw p1  h0 ) hown (W_ hw 118 rfl) (W_ hw 119 rfl) (W_ hw 4 rfl) (W_ hw 120 rfl) (by decide) 0 rfl rfl (by decide) (by decide) (by decide) (by decide) (szOf hml rfl) (lenOf pd_3 rfl) rfl (Nat.le_of_eq rfl) (D d16_143)
                  have K76 := fun t k => K74 t (st75 t k)
                  obtain ⟨x80, hx80⟩ : ∃ z : Int32, z = (if (F29 p1) = (0 : Int32) then (-1 : Int32) else (6 : Int32)) := ⟨_, rfl⟩
                  obtain ⟨T81, X81, e81, K81⟩ : ∃ T' : State, Stand p l e ({ frames := 3, cells := 0, slots := 0, locals := 36 } : Room) s m #[(.int p0), (.int p1)] below meth c T' [] 0 0 ∧ T'.heap = h0 ∧ Own.To p e below B0 T' (mkF m 155 #[vi p0, vi p1] [(.int x80)]) := by
                    by_cases hc77 : (F29 p1) = (0 : Int32)
                    · have K78 : Own.To p e below B0 T75 (mkF m 155 #[vi p0, vi p1] [(.int (-1))]) := fun t k => K76 t (by
                        refine Own.ifYes X75 hx 154 (D d16_146) ((if0 _ _).trans (teq hc77).1) (by decide) (by decide) ?_
                        refine Own.iconst X75 hx (-1 : Int32) (D d16_154) rfl ?_
                        exact k)
                      exact ⟨T75, X75, e75, fun t k => K78 t (by rw [hx80, if_pos hc77] at k; exact k)⟩
                    · have K79 : Own.To p e below B0 T75 (mkF m 155 #[vi p0, vi p1] [(.int 6)]) := fun t k => K76 t (by
                        refine Own.ifNo X75 hx (D d16_146) ((if0 _ _).trans (feq hc77).1) ?_
                        refine Own.bipush X75 hx 6 (D d16_149) rfl ?_
                        refine Own.goto X75 hx 155 (D d16_151) (by decide) (by decide) ?_
                        exact k)
                      exact ⟨T75, X75, e75, fun t k => K79 t (by rw [hx80, if_neg hc77] at k; exact k)⟩
                  exact Own.finI X81 hx (BodyLoose.notSynchronized Bd) Bd.returns (D d16_155) K81 (by decide) (by decide) ⟨by subst hx80; unfold F16; first | (rw [if_neg hc2, if_neg hc12, if_neg hc25, if_neg hc35, if_neg hc53, if_pos hc66, if_pos hc70, if_neg hc72]; done) | (rw [if_neg hc2, if_neg hc12, if_neg hc25, if_neg hc35, if_neg hc53, if_pos hc66, if_pos hc70, if_neg hc72]; rfl), rfl, e81⟩
              · have K82 : Own.To p e below B0 T68 (mkF m 141 #[vi p0, vi p1] [(.int 5)]) := fun t k => K69 t (by
                  refine Own.ifYes X68 hx 140 (D d16_131) ((if0 _ _).trans (feq hc70).2) (by decide) (by decide) ?_
                  refine Own.iconst X68 hx 5 (D d16_140) rfl ?_
                  exact k)
                exact Own.finI X68 hx (BodyLoose.notSynchronized Bd) Bd.returns (D d16_141) K82 (by decide) (by decide) ⟨by unfold F16; first | (rw [if_neg hc2, if_neg hc12, if_neg hc25, if_neg hc35, if_neg hc53, if_pos hc66, if_neg hc70]; done) | (rw [if_neg hc2, if_neg hc12, if_neg hc25, if_neg hc35, if_neg hc53, if_pos hc66, if_neg hc70]; rfl), rfl, e68⟩
            · have K83 : Own.To p e below B0 s₁ (mkF m 159 #[vi p0, vi p1] [(.int 6), (.int p0)]) := fun t k => K65 t (by
                refine Own.icmpYes X0 hx 156 (D d16_124) (feq hc66).2 (by decide) (by decide) ?_
                refine Own.iloadN X0 hx (D d16_156) rfl ?_
                refine Own.bipush X0 hx 6 (D d16_157) rfl ?_
                exact k)
              by_cases hc84 : p0 = (6 : Int32)
              · have K85 : Own.To p e below B0 s₁ (mkF m 163 #[vi p0, vi p1] [(.int p1)]) := fun t k => K83 t (by
                  refine Own.icmpNo X0 hx (D d16_159) (teq hc84).2 ?_
                  refine Own.iloadN X0 hx (D d16_162) rfl ?_
                  exact k)
                obtain ⟨T86, X86, e86, st86⟩ := Own.callP (Ls := #[vi p0, vi p1]) X0 hx hZ e0 [(.int p1)] [] (c29 l Z a0 hw p1  h0 ) hown (W_ hw 118 rfl) (W_ hw 119 rfl) (W_ hw 4 rfl) (W_ hw 120 rfl) (by decide) 0 rfl rfl (by decide) (by decide) (by decide) (by decide) (szOf hml rfl) (lenOf pd_3 rfl) rfl (Nat.le_of_eq rfl) (D d16_163)
                have K87 := fun t k => K85 t (st86 t k)
                by_cases hc88 : (F29 p1) = (0 : Int32)
                · have K89 : Own.To p e below B0 T86 (mkF m 175 #[vi p0, vi p1] [(.int 61), (.int p1)]) := fun t k => K87 t (by
                    refine Own.ifYes X86 hx 172 (D d16_166) ((if0 _ _).trans (teq hc88).1) (by decide) (by decide) ?_
                    refine Own.iloadN X86 hx (D d16_172) rfl ?_
                    refine Own.bipush X86 hx 61 (D d16_173) rfl ?_
                    exact k)
                  obtain ⟨x93, hx93⟩ : ∃ z : Int32, z = (if p1 = (61 : Int32) then (7 : Int32) else (-1 : Int32)) := ⟨_, rfl⟩
                  obtain ⟨T94, X94, e94, K94⟩ : ∃ T' : State, Stand p l e ({ frames := 3, cells := 0, slots := 0, locals := 36 } : Room) s m #[(.int p0), (.int p1)] below meth c T' [] 0 0 ∧ T'.heap = h0 ∧ Own.To p e below B0 T' (mkF m 184 #[vi p0, vi p1] [(.int x93)]) := by
                    by_cases hc90 : p1 = (61 : Int32)
                    · have K91 : Own.To p e below B0 T86 (mkF m 184 #[vi p0, vi p1] [(.int 7)]) := fun t k => K89 t (by
                        refine Own.icmpNo X86 hx (D d16_175) (teq hc90).2 ?_
                        refine Own.bipush X86 hx 7 (D d16_178) rfl ?_
                        refine Own.goto X86 hx 184 (D d16_180) (by decide) (by decide) ?_
                        exact k)
                      exact ⟨T86, X86, e86, fun t k => K91 t (by rw [hx93, if_pos hc90] at k; exact k)⟩
                    · have K92 : Own.To p e below B0 T86 (mkF m 184 #[vi p0, vi p1] [(.int (-1))]) := fun t k => K89 t (by
                        refine Own.icmpYes X86 hx 183 (D d16_175) (feq hc90).2 (by decide) (by decide) ?_
                        refine Own.iconst X86 hx (-1 : Int32) (D d16_183) rfl ?_
                        exact k)
                      exact ⟨T86, X86, e86, fun t k => K92 t (by rw [hx93, if_neg hc90] at k; exact k)⟩
                  exact Own.finI X94 hx (BodyLoose.notSynchronized Bd) Bd.returns (D d16_184) K94 (by decide) (by decide) ⟨by subst hx93; unfold F16; first | (rw [if_neg hc2, if_neg hc12, if_neg hc25, if_neg hc35, if_neg hc53, if_neg hc66, if_pos hc84, if_pos hc88]; done) | (rw [if_neg hc2, if_neg hc12, if_neg hc25, if_neg hc35, if_neg hc53, if_neg hc66, if_pos hc84, if_pos hc88]; rfl), rfl, e94⟩
                · have K95 : Own.To p e below B0 T86 (mkF m 171 #[vi p0, vi p1] [(.int 6)]) := fun t k => K87 t (by
                    refine Own.ifNo X86 hx (D d16_166) ((if0 _ _).trans (feq hc88).1) ?_
                    refine Own.bipush X86 hx 6 (D d16_169) rfl ?_
                    exact k)
                  exact Own.finI X86 hx (BodyLoose.notSynchronized Bd) Bd.returns (D d16_171) K95 (by decide) (by decide) ⟨by unfold F16; first | (rw [if_neg hc2, if_neg hc12, if_neg hc25, if_neg hc35, if_neg hc53, if_neg hc66, if_pos hc84, if_neg hc88]; done) | (rw [if_neg hc2, if_neg hc12, if_neg hc25, if_neg hc35, if_neg hc53, if_neg hc66, if_pos hc84, if_neg hc88]; rfl), rfl, e86⟩
              · have K96 : Own.To p e below B0 s₁ (mkF m 188 #[vi p0, vi p1] [(.int 7), (.int p0)]) := fun t k => K83 t (by
                  refine Own.icmpYes X0 hx 185 (D d16_159) (feq hc84).2 (by decide) (by decide) ?_
                  refine Own.iloadN X0 hx (D d16_185) rfl ?_
                  refine Own.bipush X0 hx 7 (D d16_186) rfl ?_
                  exact k)
                by_cases hc97 : p0 = (7 : Int32)
                · have K98 : Own.To p e below B0 s₁ (mkF m 194 #[vi p0, vi p1] [(.int 34), (.int p1)]) := fun t k => K96 t (by
                    refine Own.icmpNo X0 hx (D d16_188) (teq hc97).2 ?_
                    refine Own.iloadN X0 hx (D d16_191) rfl ?_
                    refine Own.bipush X0 hx 34 (D d16_192) rfl ?_
                    exact k)
                  by_cases hc99 : p1 = (34 : Int32)
                  · have K100 : Own.To p e below B0 s₁ (mkF m 199 #[vi p0, vi p1] [(.int 9)]) := fun t k => K98 t (by
                      refine Own.icmpNo X0 hx (D d16_194) (teq hc99).2 ?_
                      refine Own.bipush X0 hx 9 (D d16_197) rfl ?_
                      exact k)
                    exact Own.finI X0 hx (BodyLoose.notSynchronized Bd) Bd.returns (D d16_199) K100 (by decide) (by decide) ⟨by unfold F16; first | (rw [if_neg hc2, if_neg hc12, if_neg hc25, if_neg hc35, if_neg hc53, if_neg hc66, if_neg hc84, if_pos hc97, if_pos hc99]; done) | (rw [if_neg hc2, if_neg hc12, if_neg hc25, if_neg hc35, if_neg hc53, if_neg hc66, if_neg hc84, if_pos hc97, if_pos hc99]; rfl), rfl, e0⟩
                  · have K101 : Own.To p e below B0 s₁ (mkF m 201 #[vi p0, vi p1] [(.int p1)]) := fun t k => K98 t (by
                      refine Own.icmpYes X0 hx 200 (D d16_194) (feq hc99).2 (by decide) (by decide) ?_
                      refine Own.iloadN X0 hx (D d16_200) rfl ?_
                      exact k)
                    obtain ⟨T102, X102, e102, st102⟩ := Own.callP (Ls := #[vi p0, vi p1]) X0 hx hZ e0 [(.int p1)] [] (c29 l Z a0 hw p1  h0 ) hown (W_ hw 118 rfl) (W_ hw 119 rfl) (W_ hw 4 rfl) (W_ hw 120 rfl) (by decide) 0 rfl rfl (by decide) (by decide) (by decide) (by decide) (szOf hml rfl) (lenOf pd_3 rfl) rfl (Nat.le_of_eq rfl) (D d16_201)
                    have K103 := fun t k => K101 t (st102 t k)
                    obtain ⟨x107, hx107⟩ : ∃ z : Int32, z = (if (F29 p1) = (0 : Int32) then (-1 : Int32) else (8 : Int32)) := ⟨_, rfl⟩
                    obtain ⟨T108, X108, e108, K108⟩ : ∃ T' : State, Stand p l e ({ frames := 3, cells := 0, slots := 0, locals := 36 } : Room) s m #[(.int p0), (.int p1)] below meth c T' [] 0 0 ∧ T'.heap = h0 ∧ Own.To p e below B0 T' (mkF m 213 #[vi p0, vi p1] [(.int x107)]) := by
                      by_cases hc104 : (F29 p1) = (0 : Int32)
                      · have K105 : Own.To p e below B0 T102 (mkF m 213 #[vi p0, vi p1] [(.int (-1))]) := fun t k => K103 t (by
                          refine Own.ifYes X102 hx 212 (D d16_204) ((if0 _ _).trans (teq hc104).1) (by decide) (by decide) ?_
                          refine Own.iconst X102 hx (-1 : Int32) (D d16_212) rfl ?_
                          exact k)
                        exact ⟨T102, X102, e102, fun t k => K105 t (by rw [hx107, if_pos hc104] at k; exact k)⟩
                      · have K106 : Own.To p e below B0 T102 (mkF m 213 #[vi p0, vi p1] [(.int 8)]) := fun t k => K103 t (by
                          refine Own.ifNo X102 hx (D d16_204) ((if0 _ _).trans (feq hc104).1) ?_
                          refine Own.bipush X102 hx 8 (D d16_207) rfl ?_
                          refine Own.goto X102 hx 213 (D d16_209) (by decide) (by decide) ?_
                          exact k)
                        exact ⟨T102, X102, e102, fun t k => K106 t (by rw [hx107, if_neg hc104] at k; exact k)⟩
                    exact Own.finI X108 hx (BodyLoose.notSynchronized Bd) Bd.returns (D d16_213) K108 (by decide) (by decide) ⟨by subst hx107; unfold F16; first | (rw [if_neg hc2, if_neg hc12, if_neg hc25, if_neg hc35, if_neg hc53, if_neg hc66, if_neg hc84, if_pos hc97, if_neg hc99]; done) | (rw [if_neg hc2, if_neg hc12, if_neg hc25, if_neg hc35, if_neg hc53, if_neg hc66, if_neg hc84, if_pos hc97, if_neg hc99]; rfl), rfl, e108⟩
                · have K109 : Own.To p e below B0 s₁ (mkF m 217 #[vi p0, vi p1] [(.int 8), (.int p0)]) := fun t k => K96 t (by
                    refine Own.icmpYes X0 hx 214 (D d16_188) (feq hc97).2 (by decide) (by decide) ?_
                    refine Own.iloadN X0 hx (D d16_214) rfl ?_
                    refine Own.bipush X0 hx 8 (D d16_215) rfl ?_
                    exact k)
                  by_cases hc110 : p0 = (8 : Int32)
                  · have K111 : Own.To p e below B0 s₁ (mkF m 221 #[vi p0, vi p1] [(.int p1)]) := fun t k => K109 t (by
                      refine Own.icmpNo X0 hx (D d16_217) (teq hc110).2 ?_
                      refine Own.iloadN X0 hx (D d16_220) rfl ?_
                      exact k)
                    obtain ⟨T112, X112, e112, st112⟩ := Own.callP (Ls := #[vi p0, vi p1]) X0 hx hZ e0 [(.int p1)] [] (c29 l Z a0 hw p1  h0 ) hown (W_ hw 118 rfl) (W_ hw 119 rfl) (W_ hw 4 rfl) (W_ hw 120 rfl) (by decide) 0 rfl rfl (by decide) (by decide) (by decide) (by decide) (szOf hml rfl) (lenOf pd_3 rfl) rfl (Nat.le_of_eq rfl) (D d16_221)
                    have K113 := fun t k => K111 t (st112 t k)
                    by_cases hc114 : (F29 p1) = (0 : Int32)
                    · have K115 : Own.To p e below B0 T112 (mkF m 231 #[vi p0, vi p1] [(.int p1)]) := fun t k => K113 t (by
                        refine Own.ifYes X112 hx 230 (D d16_224) ((if0 _ _).trans (teq hc114).1) (by decide) (by decide) ?_
                        refine Own.iloadN X112 hx (D d16_230) rfl ?_
                        exact k)
                      obtain ⟨T116, X116, e116, st116⟩ := Own.callP (Ls := #[vi p0, vi p1]) X112 hx hZ e112 [(.int p1)] [] (c28 l Z a0 hw p1  h0 ) hown (W_ hw 115 rfl) (W_ hw 116 rfl) (W_ hw 4 rfl) (W_ hw 117 rfl) (by decide) 0 rfl rfl (by decide) (by decide) (by decide) (by decide) (szOf hml rfl) (lenOf pd_3 rfl) rfl (Nat.le_of_eq rfl) (D d16_231)
                      have K117 := fun t k => K115 t (st116 t k)
                      by_cases hc118 : (F28 p1) = (0 : Int32)
                      · have K119 : Own.To p e below B0 T116 (mkF m 242 #[vi p0, vi p1] [(.int 59), (.int p1)]) := fun t k => K117 t (by
                          refine Own.ifYes X116 hx 239 (D d16_234) ((if0 _ _).trans (teq hc118).1) (by decide) (by decide) ?_
                          refine Own.iloadN X116 hx (D d16_239) rfl ?_
                          refine Own.bipush X116 hx 59 (D d16_240) rfl ?_
                          exact k)
                        obtain ⟨x123, hx123⟩ : ∃ z : Int32, z = (if p1 = (59 : Int32) then (5 : Int32) else (-1 : Int32)) := ⟨_, rfl⟩
                        obtain ⟨T124, X124, e124, K124⟩ : ∃ T' : State, Stand p l e ({ frames := 3, cells := 0, slots := 0, locals := 36 } : Room) s m #[(.int p0), (.int p1)] below meth c T' [] 0 0 ∧ T'.heap = h0 ∧ Own.To p e below B0 T' (mkF m 250 #[vi p0, vi p1] [(.int x123)]) := by
                          by_cases hc120 : p1 = (59 : Int32)
                          · have K121 : Own.To p e below B0 T116 (mkF m 250 #[vi p0, vi p1] [(.int 5)]) := fun t k => K119 t (by
                              refine Own.icmpNo X116 hx (D d16_242) (teq hc120).2 ?_
                              refine Own.iconst X116 hx 5 (D d16_245) rfl ?_
                              refine Own.goto X116 hx 250 (D d16_246) (by decide) (by decide) ?_
                              exact k)
                            exact ⟨T116, X116, e116, fun t k => K121 t (by rw [hx123, if_pos hc120] at k; exact k)⟩
                          · have K122 : Own.To p e below B0 T116 (mkF m 250 #[vi p0, vi p1] [(.int (-1))]) := fun t k => K119 t (by
                              refine Own.icmpYes X116 hx 249 (D d16_242) (feq hc120).2 (by decide) (by decide) ?_
                              refine Own.iconst X116 hx (-1 : Int32) (D d16_249) rfl ?_
                              exact k)
                            exact ⟨T116, X116, e116, fun t k => K122 t (by rw [hx123, if_neg hc120] at k; exact k)⟩
                        exact Own.finI X124 hx (BodyLoose.notSynchronized Bd) Bd.returns (D d16_250) K124 (by decide) (by decide) ⟨by subst hx123; unfold F16; first | (rw [if_neg hc2, if_neg hc12, if_neg hc25, if_neg hc35, if_neg hc53, if_neg hc66, if_neg hc84, if_neg hc97, if_pos hc110, if_pos hc114, if_pos hc118]; done) | (rw [if_neg hc2, if_neg hc12, if_neg hc25, if_neg hc35, if_neg hc53, if_neg hc66, if_neg hc84, if_neg hc97, if_pos hc110, if_pos hc114, if_pos hc118]; rfl), rfl, e124⟩
                      · have K125 : Own.To p e below B0 T116 (mkF m 238 #[vi p0, vi p1] [(.int 4)]) := fun t k => K117 t (by
                          refine Own.ifNo X116 hx (D d16_234) ((if0 _ _).trans (feq hc118).1) ?_
                          refine Own.iconst X116 hx 4 (D d16_237) rfl ?_
                          exact k)
                        exact Own.finI X116 hx (BodyLoose.notSynchronized Bd) Bd.returns (D d16_238) K125 (by decide) (by decide) ⟨by unfold F16; first | (rw [if_neg hc2, if_neg hc12, if_neg hc25, if_neg hc35, if_neg hc53, if_neg hc66, if_neg hc84, if_neg hc97, if_pos hc110, if_pos hc114, if_neg hc118]; done) | (rw [if_neg hc2, if_neg hc12, if_neg hc25, if_neg hc35, if_neg hc53, if_neg hc66, if_neg hc84, if_neg hc97, if_pos hc110, if_pos hc114, if_neg hc118]; rfl), rfl, e116⟩
                    · have K126 : Own.To p e below B0 T112 (mkF m 229 #[vi p0, vi p1] [(.int 8)]) := fun t k => K113 t (by
                        refine Own.ifNo X112 hx (D d16_224) ((if0 _ _).trans (feq hc114).1) ?_
                        refine Own.bipush X112 hx 8 (D d16_227) rfl ?_
                        exact k)
                      exact Own.finI X112 hx (BodyLoose.notSynchronized Bd) Bd.returns (D d16_229) K126 (by decide) (by decide) ⟨by unfold F16; first | (rw [if_neg hc2, if_neg hc12, if_neg hc25, if_neg hc35, if_neg hc53, if_neg hc66, if_neg hc84, if_neg hc97, if_pos hc110, if_neg hc114]; done) | (rw [if_neg hc2, if_neg hc12, if_neg hc25, if_neg hc35, if_neg hc53, if_neg hc66, if_neg hc84, if_neg hc97, if_pos hc110, if_neg hc114]; rfl), rfl, e112⟩
                  · have K127 : Own.To p e below B0 s₁ (mkF m 254 #[vi p0, vi p1] [(.int 9), (.int p0)]) := fun t k => K109 t (by
                      refine Own.icmpYes X0 hx 251 (D d16_217) (feq hc110).2 (by decide) (by decide) ?_
                      refine Own.iloadN X0 hx (D d16_251) rfl ?_
                      refine Own.bipush X0 hx 9 (D d16_252) rfl ?_
                      exact k)
                    by_cases hc128 : p0 = (9 : Int32)
                    · have K129 : Own.To p e below B0 s₁ (mkF m 260 #[vi p0, vi p1] [(.int 34), (.int p1)]) := fun t k => K127 t (by
                        refine Own.icmpNo X0 hx (D d16_254) (teq hc128).2 ?_
                        refine Own.iloadN X0 hx (D d16_257) rfl ?_
                        refine Own.bipush X0 hx 34 (D d16_258) rfl ?_
                        exact k)
                      by_cases hc130 : p1 = (34 : Int32)
                      · have K131 : Own.To p e below B0 s₁ (mkF m 265 #[vi p0, vi p1] [(.int 10)]) := fun t k => K129 t (by
                          refine Own.icmpNo X0 hx (D d16_260) (teq hc130).2 ?_
                          refine Own.bipush X0 hx 10 (D d16_263) rfl ?_
                          exact k)
                        exact Own.finI X0 hx (BodyLoose.notSynchronized Bd) Bd.returns (D d16_265) K131 (by decide) (by decide) ⟨by unfold F16; first | (rw [if_neg hc2, if_neg hc12, if_neg hc25, if_neg hc35, if_neg hc53, if_neg hc66, if_neg hc84, if_neg hc97, if_neg hc110, if_pos hc128, if_pos hc130]; done) | (rw [if_neg hc2, if_neg hc12, if_neg hc25, if_neg hc35, if_neg hc53, if_neg hc66, if_neg hc84, if_neg hc97, if_neg hc110, if_pos hc128, if_pos hc130]; rfl), rfl, e0⟩
                      · have K132 : Own.To p e below B0 s₁ (mkF m 269 #[vi p0, vi p1] [(.int 92), (.int p1)]) := fun t k => K129 t (by
                          refine Own.icmpYes X0 hx 266 (D d16_260) (feq hc130).2 (by decide) (by decide) ?_
                          refine Own.iloadN X0 hx (D d16_266) rfl ?_
                          refine Own.bipush X0 hx 92 (D d16_267) rfl ?_
                          exact k)
                        by_cases hc133 : p1 = (92 : Int32)
                        · have K134 : Own.To p e below B0 s₁ (mkF m 274 #[vi p0, vi p1] [(.int 11)]) := fun t k => K132 t (by
                            refine Own.icmpNo X0 hx (D d16_269) (teq hc133).2 ?_
                            refine Own.bipush X0 hx 11 (D d16_272) rfl ?_
                            exact k)
                          exact Own.finI X0 hx (BodyLoose.notSynchronized Bd) Bd.returns (D d16_274) K134 (by decide) (by decide) ⟨by unfold F16; first | (rw [if_neg hc2, if_neg hc12, if_neg hc25, if_neg hc35, if_neg hc53, if_neg hc66, if_neg hc84, if_neg hc97, if_neg hc110, if_pos hc128, if_neg hc130, if_pos hc133]; done) | (rw [if_neg hc2, if_neg hc12, if_neg hc25, if_neg hc35, if_neg hc53, if_neg hc66, if_neg hc84, if_neg hc97, if_neg hc110, if_pos hc128, if_neg hc130, if_pos hc133]; rfl), rfl, e0⟩
                        · have K135 : Own.To p e below B0 s₁ (mkF m 276 #[vi p0, vi p1] [(.int p1)]) := fun t k => K132 t (by
                            refine Own.icmpYes X0 hx 275 (D d16_269) (feq hc133).2 (by decide) (by decide) ?_
                            refine Own.iloadN X0 hx (D d16_275) rfl ?_
                            exact k)
                          obtain ⟨T136, X136, e136, st136⟩ := Own.callP (Ls := #[vi p0, vi p1]) X0 hx hZ e0 [(.int p1)] [] (c41 l Z a0 hw p1  h0 ) hown (W_ hw 161 rfl) (W_ hw 162 rfl) (W_ hw 4 rfl) (W_ hw 163 rfl) (by decide) 0 rfl rfl (by decide) (by decide) (by decide) (by decide) (szOf hml rfl) (lenOf pd_3 rfl) rfl (Nat.le_of_eq rfl) (D d16_276)
                          have K137 := fun t k => K135 t (st136 t k)
                          obtain ⟨x141, hx141⟩ : ∃ z : Int32, z = (if (F41 p1) = (0 : Int32) then (-1 : Int32) else (9 : Int32)) := ⟨_, rfl⟩
                          obtain ⟨T142, X142, e142, K142⟩ : ∃ T' : State, Stand p l e ({ frames := 3, cells := 0, slots := 0, locals := 36 } : Room) s m #[(.int p0), (.int p1)] below meth c T' [] 0 0 ∧ T'.heap = h0 ∧ Own.To p e below B0 T' (mkF m 288 #[vi p0, vi p1] [(.int x141)]) := by
                            by_cases hc138 : (F41 p1) = (0 : Int32)
                            · have K139 : Own.To p e below B0 T136 (mkF m 288 #[vi p0, vi p1] [(.int (-1))]) := fun t k => K137 t (by
                                refine Own.ifYes X136 hx 287 (D d16_279) ((if0 _ _).trans (teq hc138).1) (by decide) (by decide) ?_
                                refine Own.iconst X136 hx (-1 : Int32) (D d16_287) rfl ?_
                                exact k)
                              exact ⟨T136, X136, e136, fun t k => K139 t (by rw [hx141, if_pos hc138] at k; exact k)⟩
                            · have K140 : Own.To p e below B0 T136 (mkF m 288 #[vi p0, vi p1] [(.int 9)]) := fun t k => K137 t (by
                                refine Own.ifNo X136 hx (D d16_279) ((if0 _ _).trans (feq hc138).1) ?_
                                refine Own.bipush X136 hx 9 (D d16_282) rfl ?_
                                refine Own.goto X136 hx 288 (D d16_284) (by decide) (by decide) ?_
                                exact k)
                              exact ⟨T136, X136, e136, fun t k => K140 t (by rw [hx141, if_neg hc138] at k; exact k)⟩
                          exact Own.finI X142 hx (BodyLoose.notSynchronized Bd) Bd.returns (D d16_288) K142 (by decide) (by decide) ⟨by subst hx141; unfold F16; first | (rw [if_neg hc2, if_neg hc12, if_neg hc25, if_neg hc35, if_neg hc53, if_neg hc66, if_neg hc84, if_neg hc97, if_neg hc110, if_pos hc128, if_neg hc130, if_neg hc133]; done) | (rw [if_neg hc2, if_neg hc12, if_neg hc25, if_neg hc35, if_neg hc53, if_neg hc66, if_neg hc84, if_neg hc97, if_neg hc110, if_pos hc128, if_neg hc130, if_neg hc133]; rfl), rfl, e142⟩
                    · have K143 : Own.To p e below B0 s₁ (mkF m 292 #[vi p0, vi p1] [(.int 11), (.int p0)]) := fun t k => K127 t (by
                        refine Own.icmpYes X0 hx 289 (D d16_254) (feq hc128).2 (by decide) (by decide) ?_
                        refine Own.iloadN X0 hx (D d16_289) rfl ?_
                        refine Own.bipush X0 hx 11 (D d16_290) rfl ?_
                        exact k)
                      by_cases hc144 : p0 = (11 : Int32)
                      · have K145 : Own.To p e below B0 s₁ (mkF m 296 #[vi p0, vi p1] [(.int p1)]) := fun t k => K143 t (by
                          refine Own.icmpNo X0 hx (D d16_292) (teq hc144).2 ?_
                          refine Own.iloadN X0 hx (D d16_295) rfl ?_
                          exact k)
                        obtain ⟨T146, X146, e146, st146⟩ := Own.callP (Ls := #[vi p0, vi p1]) X0 hx hZ e0 [(.int p1)] [] (c41 l Z a0 hw p1  h0 ) hown (W_ hw 161 rfl) (W_ hw 162 rfl) (W_ hw 4 rfl) (W_ hw 163 rfl) (by decide) 0 rfl rfl (by decide) (by decide) (by decide) (by decide) (szOf hml rfl) (lenOf pd_3 rfl) rfl (Nat.le_of_eq rfl) (D d16_296)
                        have K147 := fun t k => K145 t (st146 t k)
                        obtain ⟨x151, hx151⟩ : ∃ z : Int32, z = (if (F41 p1) = (0 : Int32) then (-1 : Int32) else (9 : Int32)) := ⟨_, rfl⟩
                        obtain ⟨T152, X152, e152, K152⟩ : ∃ T' : State, Stand p l e ({ frames := 3, cells := 0, slots := 0, locals := 36 } : Room) s m #[(.int p0), (.int p1)] below meth c T' [] 0 0 ∧ T'.heap = h0 ∧ Own.To p e below B0 T' (mkF m 308 #[vi p0, vi p1] [(.int x151)]) := by
                          by_cases hc148 : (F41 p1) = (0 : Int32)
                          · have K149 : Own.To p e below B0 T146 (mkF m 308 #[vi p0, vi p1] [(.int (-1))]) := fun t k => K147 t (by
                              refine Own.ifYes X146 hx 307 (D d16_299) ((if0 _ _).trans (teq hc148).1) (by decide) (by decide) ?_
                              refine Own.iconst X146 hx (-1 : Int32) (D d16_307) rfl ?_
                              exact k)
                            exact ⟨T146, X146, e146, fun t k => K149 t (by rw [hx151, if_pos hc148] at k; exact k)⟩
                          · have K150 : Own.To p e below B0 T146 (mkF m 308 #[vi p0, vi p1] [(.int 9)]) := fun t k => K147 t (by
                              refine Own.ifNo X146 hx (D d16_299) ((if0 _ _).trans (feq hc148).1) ?_
                              refine Own.bipush X146 hx 9 (D d16_302) rfl ?_
                              refine Own.goto X146 hx 308 (D d16_304) (by decide) (by decide) ?_
                              exact k)
                            exact ⟨T146, X146, e146, fun t k => K150 t (by rw [hx151, if_neg hc148] at k; exact k)⟩
                        exact Own.finI X152 hx (BodyLoose.notSynchronized Bd) Bd.returns (D d16_308) K152 (by decide) (by decide) ⟨by subst hx151; unfold F16; first | (rw [if_neg hc2, if_neg hc12, if_neg hc25, if_neg hc35, if_neg hc53, if_neg hc66, if_neg hc84, if_neg hc97, if_neg hc110, if_neg hc128, if_pos hc144]; done) | (rw [if_neg hc2, if_neg hc12, if_neg hc25, if_neg hc35, if_neg hc53, if_neg hc66, if_neg hc84, if_neg hc97, if_neg hc110, if_neg hc128, if_pos hc144]; rfl), rfl, e152⟩
                      · have K153 : Own.To p e below B0 s₁ (mkF m 312 #[vi p0, vi p1] [(.int 10), (.int p0)]) := fun t k => K143 t (by
                          refine Own.icmpYes X0 hx 309 (D d16_292) (feq hc144).2 (by decide) (by decide) ?_
                          refine Own.iloadN X0 hx (D d16_309) rfl ?_
                          refine Own.bipush X0 hx 10 (D d16_310) rfl ?_
                          exact k)
                        by_cases hc154 : p0 = (10 : Int32)
                        · have K155 : Own.To p e below B0 s₁ (mkF m 316 #[vi p0, vi p1] [(.int p1)]) := fun t k => K153 t (by
                            refine Own.icmpNo X0 hx (D d16_312) (teq hc154).2 ?_
                            refine Own.iloadN X0 hx (D d16_315) rfl ?_
                            exact k)
                          obtain ⟨T156, X156, e156, st156⟩ := Own.callP (Ls := #[vi p0, vi p1]) X0 hx hZ e0 [(.int p1)] [] (c28 l Z a0 hw p1  h0 ) hown (W_ hw 115 rfl) (W_ hw 116 rfl) (W_ hw 4 rfl) (W_ hw 117 rfl) (by decide) 0 rfl rfl (by decide) (by decide) (by decide) (by decide) (szOf hml rfl) (lenOf pd_3 rfl) rfl (Nat.le_of_eq rfl) (D d16_316)
                          have K157 := fun t k => K155 t (st156 t k)
                          by_cases hc158 : (F28 p1) = (0 : Int32)
                          · have K159 : Own.To p e below B0 T156 (mkF m 327 #[vi p0, vi p1] [(.int 59), (.int p1)]) := fun t k => K157 t (by
                              refine Own.ifYes X156 hx 324 (D d16_319) ((if0 _ _).trans (teq hc158).1) (by decide) (by decide) ?_
                              refine Own.iloadN X156 hx (D d16_324) rfl ?_
                              refine Own.bipush X156 hx 59 (D d16_325) rfl ?_
                              exact k)
                            obtain ⟨x163, hx163⟩ : ∃ z : Int32, z = (if p1 = (59 : Int32) then (5 : Int32) else (-1 : Int32)) := ⟨_, rfl⟩
                            obtain ⟨T164, X164, e164, K164⟩ : ∃ T' : State, Stand p l e ({ frames := 3, cells := 0, slots := 0, locals := 36 } : Room) s m #[(.int p0), (.int p1)] below meth c T' [] 0 0 ∧ T'.heap = h0 ∧ Own.To p e below B0 T' (mkF m 335 #[vi p0, vi p1] [(.int x163)]) := by
                              by_cases hc160 : p1 = (59 : Int32)
                              · have K161 : Own.To p e below B0 T156 (mkF m 335 #[vi p0, vi p1] [(.int 5)]) := fun t k => K159 t (by
                                  refine Own.icmpNo X156 hx (D d16_327) (teq hc160).2 ?_
                                  refine Own.iconst X156 hx 5 (D d16_330) rfl ?_
                                  refine Own.goto X156 hx 335 (D d16_331) (by decide) (by decide) ?_
                                  exact k)
                                exact ⟨T156, X156, e156, fun t k => K161 t (by rw [hx163, if_pos hc160] at k; exact k)⟩
                              · have K162 : Own.To p e below B0 T156 (mkF m 335 #[vi p0, vi p1] [(.int (-1))]) := fun t k => K159 t (by
                                  refine Own.icmpYes X156 hx 334 (D d16_327) (feq hc160).2 (by decide) (by decide) ?_
                                  refine Own.iconst X156 hx (-1 : Int32) (D d16_334) rfl ?_
                                  exact k)
                                exact ⟨T156, X156, e156, fun t k => K162 t (by rw [hx163, if_neg hc160] at k; exact k)⟩
                            exact Own.finI X164 hx (BodyLoose.notSynchronized Bd) Bd.returns (D d16_335) K164 (by decide) (by decide) ⟨by subst hx163; unfold F16; first | (rw [if_neg hc2, if_neg hc12, if_neg hc25, if_neg hc35, if_neg hc53, if_neg hc66, if_neg hc84, if_neg hc97, if_neg hc110, if_neg hc128, if_neg hc144, if_pos hc154, if_pos hc158]; done) | (rw [if_neg hc2, if_neg hc12, if_neg hc25, if_neg hc35, if_neg hc53, if_neg hc66, if_neg hc84, if_neg hc97, if_neg hc110, if_neg hc128, if_neg hc144, if_pos hc154, if_pos hc158]; rfl), rfl, e164⟩
                          · have K165 : Own.To p e below B0 T156 (mkF m 323 #[vi p0, vi p1] [(.int 4)]) := fun t k => K157 t (by
                              refine Own.ifNo X156 hx (D d16_319) ((if0 _ _).trans (feq hc158).1) ?_
                              refine Own.iconst X156 hx 4 (D d16_322) rfl ?_
                              exact k)
                            exact Own.finI X156 hx (BodyLoose.notSynchronized Bd) Bd.returns (D d16_323) K165 (by decide) (by decide) ⟨by unfold F16; first | (rw [if_neg hc2, if_neg hc12, if_neg hc25, if_neg hc35, if_neg hc53, if_neg hc66, if_neg hc84, if_neg hc97, if_neg hc110, if_neg hc128, if_neg hc144, if_pos hc154, if_neg hc158]; done) | (rw [if_neg hc2, if_neg hc12, if_neg hc25, if_neg hc35, if_neg hc53, if_neg hc66, if_neg hc84, if_neg hc97, if_neg hc110, if_neg hc128, if_neg hc144, if_pos hc154, if_neg hc158]; rfl), rfl, e156⟩
                        · have K166 : Own.To p e below B0 s₁ (mkF m 337 #[vi p0, vi p1] [(.int (-1))]) := fun t k => K153 t (by
                            refine Own.icmpYes X0 hx 336 (D d16_312) (feq hc154).2 (by decide) (by decide) ?_
                            refine Own.iconst X0 hx (-1 : Int32) (D d16_336) rfl ?_
                            exact k)
                          exact Own.finI X0 hx (BodyLoose.notSynchronized Bd) Bd.returns (D d16_337) K166 (by decide) (by decide) ⟨by unfold F16; first | (rw [if_neg hc2, if_neg hc12, if_neg hc25, if_neg hc35, if_neg hc53, if_neg hc66, if_neg hc84, if_neg hc97, if_neg hc110, if_neg hc128, if_neg hc144, if_neg hc154]; done) | (rw [if_neg hc2, if_neg hc12, if_neg hc25, if_neg hc35, if_neg hc53, if_neg hc66, if_neg hc84, if_neg hc97, if_neg hc110, if_neg hc128, if_neg hc144, if_neg hc154]; rfl), rfl, e0⟩

theorem d8_0 : decode J19 0 = .ok (.iload_n 0, 1) := by decide +kernel
theorem d8_1 : decode J19 1 = .ok (.iconst 3, 1) := by decide +kernel
theorem d8_2 : decode J19 2 = .ok (.if_icmp .eq 20, 3) := by decide +kernel
theorem d8_5 : decode J19 5 = .ok (.iload_n 0, 1) := by decide +kernel
theorem d8_6 : decode J19 6 = .ok (.iconst 5, 1) := by decide +kernel
theorem d8_7 : decode J19 7 = .ok (.if_icmp .eq 15, 3) := by decide +kernel
theorem d8_10 : decode J19 10 = .ok (.iload_n 0, 1) := by decide +kernel
theorem d8_11 : decode J19 11 = .ok (.bipush 8, 2) := by decide +kernel
theorem d8_13 : decode J19 13 = .ok (.if_icmp .eq 9, 3) := by decide +kernel
theorem d8_16 : decode J19 16 = .ok (.iload_n 0, 1) := by decide +kernel
theorem d8_17 : decode J19 17 = .ok (.bipush 10, 2) := by decide +kernel
theorem d8_19 : decode J19 19 = .ok (.if_icmp .ne 7, 3) := by decide +kernel
theorem d8_22 : decode J19 22 = .ok (.iconst 1, 1) := by decide +kernel
theorem d8_23 : decode J19 23 = .ok (.goto 4, 3) := by decide +kernel
theorem d8_26 : decode J19 26 = .ok (.iconst 0, 1) := by decide +kernel
theorem d8_27 : decode J19 27 = .ok (.ireturn, 1) := by decide +kernel
theorem ef_8 (m : MethodId) (p0 : Int32) : entryFrame m #[(.int p0)] 1 = mkF m 0 #[.val (.int p0)] [] := by first | (simp [entryFrame, mkF, argsToLocals, Value.category]; done) | rfl
def F8 (p0 : Int32) : Int32 := (nar .boolean (if p0 = (3 : Int32) then (1 : Int32) else (if p0 = (5 : Int32) then (1 : Int32) else (if p0 = (8 : Int32) then (1 : Int32) else (if p0 = (10 : Int32) then (1 : Int32) else (0 : Int32))))))
set_option maxRecDepth 65536 in
set_option maxHeartbeats 40000000 in
theorem c8 (l : Launch) (Z : State) (a0 : Array Value) (hw : ∀ d ∈ tables_1, d.before a0 Z = true) (p0 : Int32) (h0 : Heap) : Own.Con l Z (⟨"com/example/pliktflow/pliktflow/deposit/MediaTypeIsWellFormedPinLaw", "accepts", "(I)Z"⟩ : MethodName) method_7_code 1 (some .boolean) ({ frames := 0, cells := 0, slots := 0, locals := 0 } : Room) #[(.int p0)] h0 (Own.Pure (.int (F8 p0)) h0) := by
  intro ws
  refine MetFree.of_bodySF (plainFor_of_name pn_1) hisR ?_
  intro p e s m args below meth c s₁ Bd hml0 hP hK
  obtain ⟨rfl, hZ, hh⟩ := hP
  have hx := Bd.exec
  have hby := Bd.bytes
  have D := fun {n : Nat} {i} (d : decode method_7_code n = .ok i) => hb hby d
  have hml : c.maxLocals = 1 := hml0
  have hown : s.vm.findClass "com/example/pliktflow/pliktflow/deposit/MediaTypeIsWellFormedPinLaw" = some m.cls := findClass_of_methodNamed Bd.named
  have hnm := (name_of_methodNamed Bd.named Bd.method).1
  have X0 : Stand p l e ({ frames := 0, cells := 0, slots := 0, locals := 0 } : Room) s m #[(.int p0)] below meth c s₁ [] 0 0 := Stand.of_body Bd
  have e0 : s₁.heap = h0 := by rw [← hh, Bd.state]; rfl
  have K0 : ∀ t, Steps p.tables e below (s₁.setTop (mkF m 0 #[vi p0] [])) t → Steps p.tables e below (s₁.setTop (entryFrame m #[(.int p0)] 1)) t := fun t k => castTop (ef_8 m p0) k
  generalize s₁.setTop (entryFrame m #[(.int p0)] 1) = B0 at K0 ⊢
  show Own.Fin p e below B0 s (({ frames := 0, cells := 0, slots := 0, locals := 0 } : Room)).cells (({ frames := 0, cells := 0, slots := 0, locals := 0 } : Room)).slots (Own.Pure (.int (F8 p0)) h0)
  have K1 : Own.To p e below B0 s₁ (mkF m 2 #[vi p0] [(.int 3), (.int p0)]) := fun t k => K0 t (by
    refine Own.iloadN X0 hx (D d8_0) rfl ?_
    refine Own.iconst X0 hx 3 (D d8_1) rfl ?_
    exact k)
  obtain ⟨x20, hx20⟩ : ∃ z : Int32, z = (if p0 = (3 : Int32) then (1 : Int32) else (if p0 = (5 : Int32) then (1 : Int32) else (if p0 = (8 : Int32) then (1 : Int32) else (if p0 = (10 : Int32) then (1 : Int32) else (0 : Int32))))) := ⟨_, rfl⟩
  obtain ⟨T21, X21, e21, K21⟩ : ∃ T' : State, Stand p l e ({ frames := 0, cells := 0, slots := 0, locals := 0 } : Room) s m #[(.int p0)] below meth c T' [] 0 0 ∧ T'.heap = h0 ∧ Own.To p e below B0 T' (mkF m 27 #[vi p0] [(.int x20)]) := by
    by_cases hc2 : p0 = (3 : Int32)
    · have K3 : Own.To p e below B0 s₁ (mkF m 27 #[vi p0] [(.int 1)]) := fun t k => K1 t (by
        refine Own.icmpYes X0 hx 22 (D d8_2) (teq hc2).1 (by decide) (by decide) ?_
        refine Own.iconst X0 hx 1 (D d8_22) rfl ?_
        refine Own.goto X0 hx 27 (D d8_23) (by decide) (by decide) ?_
        exact k)
      exact ⟨s₁, X0, e0, fun t k => K3 t (by rw [hx20, if_pos hc2] at k; exact k)⟩
    · have K4 : Own.To p e below B0 s₁ (mkF m 7 #[vi p0] [(.int 5), (.int p0)]) := fun t k => K1 t (by
        refine Own.icmpNo X0 hx (D d8_2) (feq hc2).1 ?_
        refine Own.iloadN X0 hx (D d8_5) rfl ?_
        refine Own.iconst X0 hx 5 (D d8_6) rfl ?_
        exact k)
      obtain ⟨x18, hx18⟩ : ∃ z : Int32, z = (if p0 = (5 : Int32) then (1 : Int32) else (if p0 = (8 : Int32) then (1 : Int32) else (if p0 = (10 : Int32) then (1 : Int32) else (0 : Int32)))) := ⟨_, rfl⟩
      obtain ⟨T19, X19, e19, K19⟩ : ∃ T' : State, Stand p l e ({ frames := 0, cells := 0, slots := 0, locals := 0 } : Room) s m #[(.int p0)] below meth c T' [] 0 0 ∧ T'.heap = h0 ∧ Own.To p e below B0 T' (mkF m 27 #[vi p0] [(.int x18)]) := by
        by_cases hc5 : p0 = (5 : Int32)
        · have K6 : Own.To p e below B0 s₁ (mkF m 27 #[vi p0] [(.int 1)]) := fun t k => K4 t (by
            refine Own.icmpYes X0 hx 22 (D d8_7) (teq hc5).1 (by decide) (by decide) ?_
            refine Own.iconst X0 hx 1 (D d8_22) rfl ?_
            refine Own.goto X0 hx 27 (D d8_23) (by decide) (by decide) ?_
            exact k)
          exact ⟨s₁, X0, e0, fun t k => K6 t (by rw [hx18, if_pos hc5] at k; exact k)⟩
        · have K7 : Own.To p e below B0 s₁ (mkF m 13 #[vi p0] [(.int 8), (.int p0)]) := fun t k => K4 t (by
            refine Own.icmpNo X0 hx (D d8_7) (feq hc5).1 ?_
            refine Own.iloadN X0 hx (D d8_10) rfl ?_
            refine Own.bipush X0 hx 8 (D d8_11) rfl ?_
            exact k)
          obtain ⟨x16, hx16⟩ : ∃ z : Int32, z = (if p0 = (8 : Int32) then (1 : Int32) else (if p0 = (10 : Int32) then (1 : Int32) else (0 : Int32))) := ⟨_, rfl⟩
          obtain ⟨T17, X17, e17, K17⟩ : ∃ T' : State, Stand p l e ({ frames := 0, cells := 0, slots := 0, locals := 0 } : Room) s m #[(.int p0)] below meth c T' [] 0 0 ∧ T'.heap = h0 ∧ Own.To p e below B0 T' (mkF m 27 #[vi p0] [(.int x16)]) := by
            by_cases hc8 : p0 = (8 : Int32)
            · have K9 : Own.To p e below B0 s₁ (mkF m 27 #[vi p0] [(.int 1)]) := fun t k => K7 t (by
                refine Own.icmpYes X0 hx 22 (D d8_13) (teq hc8).1 (by decide) (by decide) ?_
                refine Own.iconst X0 hx 1 (D d8_22) rfl ?_
                refine Own.goto X0 hx 27 (D d8_23) (by decide) (by decide) ?_
                exact k)
              exact ⟨s₁, X0, e0, fun t k => K9 t (by rw [hx16, if_pos hc8] at k; exact k)⟩
            · have K10 : Own.To p e below B0 s₁ (mkF m 19 #[vi p0] [(.int 10), (.int p0)]) := fun t k => K7 t (by
                refine Own.icmpNo X0 hx (D d8_13) (feq hc8).1 ?_
                refine Own.iloadN X0 hx (D d8_16) rfl ?_
                refine Own.bipush X0 hx 10 (D d8_17) rfl ?_
                exact k)
              obtain ⟨x14, hx14⟩ : ∃ z : Int32, z = (if p0 = (10 : Int32) then (1 : Int32) else (0 : Int32)) := ⟨_, rfl⟩
              obtain ⟨T15, X15, e15, K15⟩ : ∃ T' : State, Stand p l e ({ frames := 0, cells := 0, slots := 0, locals := 0 } : Room) s m #[(.int p0)] below meth c T' [] 0 0 ∧ T'.heap = h0 ∧ Own.To p e below B0 T' (mkF m 27 #[vi p0] [(.int x14)]) := by
                by_cases hc11 : p0 = (10 : Int32)
                · have K12 : Own.To p e below B0 s₁ (mkF m 27 #[vi p0] [(.int 1)]) := fun t k => K10 t (by
                    refine Own.icmpNo X0 hx (D d8_19) (teq hc11).2 ?_
                    refine Own.iconst X0 hx 1 (D d8_22) rfl ?_
                    refine Own.goto X0 hx 27 (D d8_23) (by decide) (by decide) ?_
                    exact k)
                  exact ⟨s₁, X0, e0, fun t k => K12 t (by rw [hx14, if_pos hc11] at k; exact k)⟩
                · have K13 : Own.To p e below B0 s₁ (mkF m 27 #[vi p0] [(.int 0)]) := fun t k => K10 t (by
                    refine Own.icmpYes X0 hx 26 (D d8_19) (feq hc11).2 (by decide) (by decide) ?_
                    refine Own.iconst X0 hx 0 (D d8_26) rfl ?_
                    exact k)
                  exact ⟨s₁, X0, e0, fun t k => K13 t (by rw [hx14, if_neg hc11] at k; exact k)⟩
              exact ⟨T15, X15, e15, fun t k => K15 t (by subst hx14; rw [hx16, if_neg hc8] at k; exact k)⟩
          exact ⟨T17, X17, e17, fun t k => K17 t (by subst hx16; rw [hx18, if_neg hc5] at k; exact k)⟩
      exact ⟨T19, X19, e19, fun t k => K19 t (by subst hx18; rw [hx20, if_neg hc2] at k; exact k)⟩
  exact Own.finN X21 hx (BodyLoose.notSynchronized Bd) Bd.returns (by simp) (D d8_27) K21 (by decide) (by decide) ⟨by subst hx20; unfold F8; rfl, rfl, e21⟩

theorem d23_0 : decode J22 0 = .ok (.iload_n 0, 1) := by decide +kernel
theorem d23_1 : decode J22 1 = .ok (.bipush 65, 2) := by decide +kernel
theorem d23_3 : decode J22 3 = .ok (.if_icmp .lt 9, 3) := by decide +kernel
theorem d23_6 : decode J22 6 = .ok (.iload_n 0, 1) := by decide +kernel
theorem d23_7 : decode J22 7 = .ok (.bipush 90, 2) := by decide +kernel
theorem d23_9 : decode J22 9 = .ok (.if_icmp .le 27, 3) := by decide +kernel
theorem d23_12 : decode J22 12 = .ok (.iload_n 0, 1) := by decide +kernel
theorem d23_13 : decode J22 13 = .ok (.bipush 97, 2) := by decide +kernel
theorem d23_15 : decode J22 15 = .ok (.if_icmp .lt 9, 3) := by decide +kernel
theorem d23_18 : decode J22 18 = .ok (.iload_n 0, 1) := by decide +kernel
theorem d23_19 : decode J22 19 = .ok (.bipush 122, 2) := by decide +kernel
theorem d23_21 : decode J22 21 = .ok (.if_icmp .le 15, 3) := by decide +kernel
theorem d23_24 : decode J22 24 = .ok (.iload_n 0, 1) := by decide +kernel
theorem d23_25 : decode J22 25 = .ok (.bipush 48, 2) := by decide +kernel
theorem d23_27 : decode J22 27 = .ok (.if_icmp .lt 13, 3) := by decide +kernel
theorem d23_30 : decode J22 30 = .ok (.iload_n 0, 1) := by decide +kernel
theorem d23_31 : decode J22 31 = .ok (.bipush 57, 2) := by decide +kernel
theorem d23_33 : decode J22 33 = .ok (.if_icmp .gt 7, 3) := by decide +kernel
theorem d23_36 : decode J22 36 = .ok (.iconst 1, 1) := by decide +kernel
theorem d23_37 : decode J22 37 = .ok (.goto 4, 3) := by decide +kernel
theorem d23_40 : decode J22 40 = .ok (.iconst 0, 1) := by decide +kernel
theorem d23_41 : decode J22 41 = .ok (.ireturn, 1) := by decide +kernel
theorem pn_2 : plainName "com/example/pliktflow/pliktflow/deposit/MediaType" = true := by first | (simp [plainName, overriddenIn]; done) | decide +kernel
theorem ef_23 (m : MethodId) (p0 : Int32) : entryFrame m #[(.int p0)] 1 = mkF m 0 #[.val (.int p0)] [] := by first | (simp [entryFrame, mkF, argsToLocals, Value.category]; done) | rfl
def F23 (p0 : Int32) : Int32 := (nar .boolean (if p0 < (65 : Int32) then (if p0 < (97 : Int32) then (if p0 < (48 : Int32) then (0 : Int32) else (if (57 : Int32) < p0 then (0 : Int32) else (1 : Int32))) else (if (122 : Int32) < p0 then (if p0 < (48 : Int32) then (0 : Int32) else (if (57 : Int32) < p0 then (0 : Int32) else (1 : Int32))) else (1 : Int32))) else (if (90 : Int32) < p0 then (if p0 < (97 : Int32) then (if p0 < (48 : Int32) then (0 : Int32) else (if (57 : Int32) < p0 then (0 : Int32) else (1 : Int32))) else (if (122 : Int32) < p0 then (if p0 < (48 : Int32) then (0 : Int32) else (if (57 : Int32) < p0 then (0 : Int32) else (1 : Int32))) else (1 : Int32))) else (1 : Int32))))
set_option maxRecDepth 65536 in
set_option maxHeartbeats 40000000 in
theorem c23 (l : Launch) (Z : State) (a0 : Array Value) (hw : ∀ d ∈ tables_1, d.before a0 Z = true) (p0 : Int32) (h0 : Heap) : Own.Con l Z (⟨"com/example/pliktflow/pliktflow/deposit/MediaType", "isLetterOrDigit", "(C)Z"⟩ : MethodName) prog_22_method_10_code 1 (some .boolean) ({ frames := 0, cells := 0, slots := 0, locals := 0 } : Room) #[(.int p0)] h0 (Own.Pure (.int (F23 p0)) h0) := by
  intro ws
  refine MetFree.of_bodySF (plainFor_of_name pn_2) hisR ?_
  intro p e s m args below meth c s₁ Bd hml0 hP hK
  obtain ⟨rfl, hZ, hh⟩ := hP
  have hx := Bd.exec
  have hby := Bd.bytes
  have D := fun {n : Nat} {i} (d : decode prog_22_method_10_code n = .ok i) => hb hby d
  have hml : c.maxLocals = 1 := hml0
  have hown : s.vm.findClass "com/example/pliktflow/pliktflow/deposit/MediaType" = some m.cls := findClass_of_methodNamed Bd.named
  have hnm := (name_of_methodNamed Bd.named Bd.method).1
  have X0 : Stand p l e ({ frames := 0, cells := 0, slots := 0, locals := 0 } : Room) s m #[(.int p0)] below meth c s₁ [] 0 0 := Stand.of_body Bd
  have e0 : s₁.heap = h0 := by rw [← hh, Bd.state]; rfl
  have K0 : ∀ t, Steps p.tables e below (s₁.setTop (mkF m 0 #[vi p0] [])) t → Steps p.tables e below (s₁.setTop (entryFrame m #[(.int p0)] 1)) t := fun t k => castTop (ef_23 m p0) k
  generalize s₁.setTop (entryFrame m #[(.int p0)] 1) = B0 at K0 ⊢
  show Own.Fin p e below B0 s (({ frames := 0, cells := 0, slots := 0, locals := 0 } : Room)).cells (({ frames := 0, cells := 0, slots := 0, locals := 0 } : Room)).slots (Own.Pure (.int (F23 p0)) h0)
  have K1 : Own.To p e below B0 s₁ (mkF m 3 #[vi p0] [(.int 65), (.int p0)]) := fun t k => K0 t (by
    refine Own.iloadN X0 hx (D d23_0) rfl ?_
    refine Own.bipush X0 hx 65 (D d23_1) rfl ?_
    exact k)
  obtain ⟨x70, hx70⟩ : ∃ z : Int32, z = (if p0 < (65 : Int32) then (if p0 < (97 : Int32) then (if p0 < (48 : Int32) then (0 : Int32) else (if (57 : Int32) < p0 then (0 : Int32) else (1 : Int32))) else (if (122 : Int32) < p0 then (if p0 < (48 : Int32) then (0 : Int32) else (if (57 : Int32) < p0 then (0 : Int32) else (1 : Int32))) else (1 : Int32))) else (if (90 : Int32) < p0 then (if p0 < (97 : Int32) then (if p0 < (48 : Int32) then (0 : Int32) else (if (57 : Int32) < p0 then (0 : Int32) else (1 : Int32))) else (if (122 : Int32) < p0 then (if p0 < (48 : Int32) then (0 : Int32) else (if (57 : Int32) < p0 then (0 : Int32) else (1 : Int32))) else (1 : Int32))) else (1 : Int32))) := ⟨_, rfl⟩
  obtain ⟨T71, X71, e71, K71⟩ : ∃ T' : State, Stand p l e ({ frames := 0, cells := 0, slots := 0, locals := 0 } : Room) s m #[(.int p0)] below meth c T' [] 0 0 ∧ T'.heap = h0 ∧ Own.To p e below B0 T' (mkF m 41 #[vi p0] [(.int x70)]) := by
    by_cases hc2 : p0 < (65 : Int32)
    · have K3 : Own.To p e below B0 s₁ (mkF m 15 #[vi p0] [(.int 97), (.int p0)]) := fun t k => K1 t (by
        refine Own.icmpYes X0 hx 12 (D d23_3) (tlt hc2).1 (by decide) (by decide) ?_
        refine Own.iloadN X0 hx (D d23_12) rfl ?_
        refine Own.bipush X0 hx 97 (D d23_13) rfl ?_
        exact k)
      obtain ⟨x32, hx32⟩ : ∃ z : Int32, z = (if p0 < (97 : Int32) then (if p0 < (48 : Int32) then (0 : Int32) else (if (57 : Int32) < p0 then (0 : Int32) else (1 : Int32))) else (if (122 : Int32) < p0 then (if p0 < (48 : Int32) then (0 : Int32) else (if (57 : Int32) < p0 then (0 : Int32) else (1 : Int32))) else (1 : Int32))) := ⟨_, rfl⟩
      obtain ⟨T33, X33, e33, K33⟩ : ∃ T' : State, Stand p l e ({ frames := 0, cells := 0, slots := 0, locals := 0 } : Room) s m #[(.int p0)] below meth c T' [] 0 0 ∧ T'.heap = h0 ∧ Own.To p e below B0 T' (mkF m 41 #[vi p0] [(.int x32)]) := by
        by_cases hc4 : p0 < (97 : Int32)
        · have K5 : Own.To p e below B0 s₁ (mkF m 27 #[vi p0] [(.int 48), (.int p0)]) := fun t k => K3 t (by
            refine Own.icmpYes X0 hx 24 (D d23_15) (tlt hc4).1 (by decide) (by decide) ?_
            refine Own.iloadN X0 hx (D d23_24) rfl ?_
            refine Own.bipush X0 hx 48 (D d23_25) rfl ?_
            exact k)
          obtain ⟨x14, hx14⟩ : ∃ z : Int32, z = (if p0 < (48 : Int32) then (0 : Int32) else (if (57 : Int32) < p0 then (0 : Int32) else (1 : Int32))) := ⟨_, rfl⟩
          obtain ⟨T15, X15, e15, K15⟩ : ∃ T' : State, Stand p l e ({ frames := 0, cells := 0, slots := 0, locals := 0 } : Room) s m #[(.int p0)] below meth c T' [] 0 0 ∧ T'.heap = h0 ∧ Own.To p e below B0 T' (mkF m 41 #[vi p0] [(.int x14)]) := by
            by_cases hc6 : p0 < (48 : Int32)
            · have K7 : Own.To p e below B0 s₁ (mkF m 41 #[vi p0] [(.int 0)]) := fun t k => K5 t (by
                refine Own.icmpYes X0 hx 40 (D d23_27) (tlt hc6).1 (by decide) (by decide) ?_
                refine Own.iconst X0 hx 0 (D d23_40) rfl ?_
                exact k)
              exact ⟨s₁, X0, e0, fun t k => K7 t (by rw [hx14, if_pos hc6] at k; exact k)⟩
            · have K8 : Own.To p e below B0 s₁ (mkF m 33 #[vi p0] [(.int 57), (.int p0)]) := fun t k => K5 t (by
                refine Own.icmpNo X0 hx (D d23_27) (flt hc6).1 ?_
                refine Own.iloadN X0 hx (D d23_30) rfl ?_
                refine Own.bipush X0 hx 57 (D d23_31) rfl ?_
                exact k)
              obtain ⟨x12, hx12⟩ : ∃ z : Int32, z = (if (57 : Int32) < p0 then (0 : Int32) else (1 : Int32)) := ⟨_, rfl⟩
              obtain ⟨T13, X13, e13, K13⟩ : ∃ T' : State, Stand p l e ({ frames := 0, cells := 0, slots := 0, locals := 0 } : Room) s m #[(.int p0)] below meth c T' [] 0 0 ∧ T'.heap = h0 ∧ Own.To p e below B0 T' (mkF m 41 #[vi p0] [(.int x12)]) := by
                by_cases hc9 : (57 : Int32) < p0
                · have K10 : Own.To p e below B0 s₁ (mkF m 41 #[vi p0] [(.int 0)]) := fun t k => K8 t (by
                    refine Own.icmpYes X0 hx 40 (D d23_33) (tlt hc9).2.2.1 (by decide) (by decide) ?_
                    refine Own.iconst X0 hx 0 (D d23_40) rfl ?_
                    exact k)
                  exact ⟨s₁, X0, e0, fun t k => K10 t (by rw [hx12, if_pos hc9] at k; exact k)⟩
                · have K11 : Own.To p e below B0 s₁ (mkF m 41 #[vi p0] [(.int 1)]) := fun t k => K8 t (by
                    refine Own.icmpNo X0 hx (D d23_33) (flt hc9).2.2.1 ?_
                    refine Own.iconst X0 hx 1 (D d23_36) rfl ?_
                    refine Own.goto X0 hx 41 (D d23_37) (by decide) (by decide) ?_
                    exact k)
                  exact ⟨s₁, X0, e0, fun t k => K11 t (by rw [hx12, if_neg hc9] at k; exact k)⟩
              exact ⟨T13, X13, e13, fun t k => K13 t (by subst hx12; rw [hx14, if_neg hc6] at k; exact k)⟩
          exact ⟨T15, X15, e15, fun t k => K15 t (by subst hx14; rw [hx32, if_pos hc4] at k; exact k)⟩
        · have K16 : Own.To p e below B0 s₁ (mkF m 21 #[vi p0] [(.int 122), (.int p0)]) := fun t k => K3 t (by
            refine Own.icmpNo X0 hx (D d23_15) (flt hc4).1 ?_
            refine Own.iloadN X0 hx (D d23_18) rfl ?_
            refine Own.bipush X0 hx 122 (D d23_19) rfl ?_
            exact k)
          obtain ⟨x30, hx30⟩ : ∃ z : Int32, z = (if (122 : Int32) < p0 then (if p0 < (48 : Int32) then (0 : Int32) else (if (57 : Int32) < p0 then (0 : Int32) else (1 : Int32))) else (1 : Int32)) := ⟨_, rfl⟩
          obtain ⟨T31, X31, e31, K31⟩ : ∃ T' : State, Stand p l e ({ frames := 0, cells := 0, slots := 0, locals := 0 } : Room) s m #[(.int p0)] below meth c T' [] 0 0 ∧ T'.heap = h0 ∧ Own.To p e below B0 T' (mkF m 41 #[vi p0] [(.int x30)]) := by
            by_cases hc17 : (122 : Int32) < p0
            · have K18 : Own.To p e below B0 s₁ (mkF m 27 #[vi p0] [(.int 48), (.int p0)]) := fun t k => K16 t (by
                refine Own.icmpNo X0 hx (D d23_21) (tlt hc17).2.2.2 ?_
                refine Own.iloadN X0 hx (D d23_24) rfl ?_
                refine Own.bipush X0 hx 48 (D d23_25) rfl ?_
                exact k)
              obtain ⟨x27, hx27⟩ : ∃ z : Int32, z = (if p0 < (48 : Int32) then (0 : Int32) else (if (57 : Int32) < p0 then (0 : Int32) else (1 : Int32))) := ⟨_, rfl⟩
              obtain ⟨T28, X28, e28, K28⟩ : ∃ T' : State, Stand p l e ({ frames := 0, cells := 0, slots := 0, locals := 0 } : Room) s m #[(.int p0)] below meth c T' [] 0 0 ∧ T'.heap = h0 ∧ Own.To p e below B0 T' (mkF m 41 #[vi p0] [(.int x27)]) := by
                by_cases hc19 : p0 < (48 : Int32)
                · have K20 : Own.To p e below B0 s₁ (mkF m 41 #[vi p0] [(.int 0)]) := fun t k => K18 t (by
                    refine Own.icmpYes X0 hx 40 (D d23_27) (tlt hc19).1 (by decide) (by decide) ?_
                    refine Own.iconst X0 hx 0 (D d23_40) rfl ?_
                    exact k)
                  exact ⟨s₁, X0, e0, fun t k => K20 t (by rw [hx27, if_pos hc19] at k; exact k)⟩
                · have K21 : Own.To p e below B0 s₁ (mkF m 33 #[vi p0] [(.int 57), (.int p0)]) := fun t k => K18 t (by
                    refine Own.icmpNo X0 hx (D d23_27) (flt hc19).1 ?_
                    refine Own.iloadN X0 hx (D d23_30) rfl ?_
                    refine Own.bipush X0 hx 57 (D d23_31) rfl ?_
                    exact k)
                  obtain ⟨x25, hx25⟩ : ∃ z : Int32, z = (if (57 : Int32) < p0 then (0 : Int32) else (1 : Int32)) := ⟨_, rfl⟩
                  obtain ⟨T26, X26, e26, K26⟩ : ∃ T' : State, Stand p l e ({ frames := 0, cells := 0, slots := 0, locals := 0 } : Room) s m #[(.int p0)] below meth c T' [] 0 0 ∧ T'.heap = h0 ∧ Own.To p e below B0 T' (mkF m 41 #[vi p0] [(.int x25)]) := by
                    by_cases hc22 : (57 : Int32) < p0
                    · have K23 : Own.To p e below B0 s₁ (mkF m 41 #[vi p0] [(.int 0)]) := fun t k => K21 t (by
                        refine Own.icmpYes X0 hx 40 (D d23_33) (tlt hc22).2.2.1 (by decide) (by decide) ?_
                        refine Own.iconst X0 hx 0 (D d23_40) rfl ?_
                        exact k)
                      exact ⟨s₁, X0, e0, fun t k => K23 t (by rw [hx25, if_pos hc22] at k; exact k)⟩
                    · have K24 : Own.To p e below B0 s₁ (mkF m 41 #[vi p0] [(.int 1)]) := fun t k => K21 t (by
                        refine Own.icmpNo X0 hx (D d23_33) (flt hc22).2.2.1 ?_
                        refine Own.iconst X0 hx 1 (D d23_36) rfl ?_
                        refine Own.goto X0 hx 41 (D d23_37) (by decide) (by decide) ?_
                        exact k)
                      exact ⟨s₁, X0, e0, fun t k => K24 t (by rw [hx25, if_neg hc22] at k; exact k)⟩
                  exact ⟨T26, X26, e26, fun t k => K26 t (by subst hx25; rw [hx27, if_neg hc19] at k; exact k)⟩
              exact ⟨T28, X28, e28, fun t k => K28 t (by subst hx27; rw [hx30, if_pos hc17] at k; exact k)⟩
            · have K29 : Own.To p e below B0 s₁ (mkF m 41 #[vi p0] [(.int 1)]) := fun t k => K16 t (by
                refine Own.icmpYes X0 hx 36 (D d23_21) (flt hc17).2.2.2 (by decide) (by decide) ?_
                refine Own.iconst X0 hx 1 (D d23_36) rfl ?_
                refine Own.goto X0 hx 41 (D d23_37) (by decide) (by decide) ?_
                exact k)
              exact ⟨s₁, X0, e0, fun t k => K29 t (by rw [hx30, if_neg hc17] at k; exact k)⟩
          exact ⟨T31, X31, e31, fun t k => K31 t (by subst hx30; rw [hx32, if_neg hc4] at k; exact k)⟩
      exact ⟨T33, X33, e33, fun t k => K33 t (by subst hx32; rw [hx70, if_pos hc2] at k; exact k)⟩
    · have K34 : Own.To p e below B0 s₁ (mkF m 9 #[vi p0] [(.int 90), (.int p0)]) := fun t k => K1 t (by
        refine Own.icmpNo X0 hx (D d23_3) (flt hc2).1 ?_
        refine Own.iloadN X0 hx (D d23_6) rfl ?_
        refine Own.bipush X0 hx 90 (D d23_7) rfl ?_
        exact k)
      obtain ⟨x68, hx68⟩ : ∃ z : Int32, z = (if (90 : Int32) < p0 then (if p0 < (97 : Int32) then (if p0 < (48 : Int32) then (0 : Int32) else (if (57 : Int32) < p0 then (0 : Int32) else (1 : Int32))) else (if (122 : Int32) < p0 then (if p0 < (48 : Int32) then (0 : Int32) else (if (57 : Int32) < p0 then (0 : Int32) else (1 : Int32))) else (1 : Int32))) else (1 : Int32)) := ⟨_, rfl⟩
      obtain ⟨T69, X69, e69, K69⟩ : ∃ T' : State, Stand p l e ({ frames := 0, cells := 0, slots := 0, locals := 0 } : Room) s m #[(.int p0)] below meth c T' [] 0 0 ∧ T'.heap = h0 ∧ Own.To p e below B0 T' (mkF m 41 #[vi p0] [(.int x68)]) := by
        by_cases hc35 : (90 : Int32) < p0
        · have K36 : Own.To p e below B0 s₁ (mkF m 15 #[vi p0] [(.int 97), (.int p0)]) := fun t k => K34 t (by
            refine Own.icmpNo X0 hx (D d23_9) (tlt hc35).2.2.2 ?_
            refine Own.iloadN X0 hx (D d23_12) rfl ?_
            refine Own.bipush X0 hx 97 (D d23_13) rfl ?_
            exact k)
          obtain ⟨x65, hx65⟩ : ∃ z : Int32, z = (if p0 < (97 : Int32) then (if p0 < (48 : Int32) then (0 : Int32) else (if (57 : Int32) < p0 then (0 : Int32) else (1 : Int32))) else (if (122 : Int32) < p0 then (if p0 < (48 : Int32) then (0 : Int32) else (if (57 : Int32) < p0 then (0 : Int32) else (1 : Int32))) else (1 : Int32))) := ⟨_, rfl⟩
          obtain ⟨T66, X66, e66, K66⟩ : ∃ T' : State, Stand p l e ({ frames := 0, cells := 0, slots := 0, locals := 0 } : Room) s m #[(.int p0)] below meth c T' [] 0 0 ∧ T'.heap = h0 ∧ Own.To p e below B0 T' (mkF m 41 #[vi p0] [(.int x65)]) := by
            by_cases hc37 : p0 < (97 : Int32)
            · have K38 : Own.To p e below B0 s₁ (mkF m 27 #[vi p0] [(.int 48), (.int p0)]) := fun t k => K36 t (by
                refine Own.icmpYes X0 hx 24 (D d23_15) (tlt hc37).1 (by decide) (by decide) ?_
                refine Own.iloadN X0 hx (D d23_24) rfl ?_
                refine Own.bipush X0 hx 48 (D d23_25) rfl ?_
                exact k)
              obtain ⟨x47, hx47⟩ : ∃ z : Int32, z = (if p0 < (48 : Int32) then (0 : Int32) else (if (57 : Int32) < p0 then (0 : Int32) else (1 : Int32))) := ⟨_, rfl⟩
              obtain ⟨T48, X48, e48, K48⟩ : ∃ T' : State, Stand p l e ({ frames := 0, cells := 0, slots := 0, locals := 0 } : Room) s m #[(.int p0)] below meth c T' [] 0 0 ∧ T'.heap = h0 ∧ Own.To p e below B0 T' (mkF m 41 #[vi p0] [(.int x47)]) := by
                by_cases hc39 : p0 < (48 : Int32)
                · have K40 : Own.To p e below B0 s₁ (mkF m 41 #[vi p0] [(.int 0)]) := fun t k => K38 t (by
                    refine Own.icmpYes X0 hx 40 (D d23_27) (tlt hc39).1 (by decide) (by decide) ?_
                    refine Own.iconst X0 hx 0 (D d23_40) rfl ?_
                    exact k)
                  exact ⟨s₁, X0, e0, fun t k => K40 t (by rw [hx47, if_pos hc39] at k; exact k)⟩
                · have K41 : Own.To p e below B0 s₁ (mkF m 33 #[vi p0] [(.int 57), (.int p0)]) := fun t k => K38 t (by
                    refine Own.icmpNo X0 hx (D d23_27) (flt hc39).1 ?_
                    refine Own.iloadN X0 hx (D d23_30) rfl ?_
                    refine Own.bipush X0 hx 57 (D d23_31) rfl ?_
                    exact k)
                  obtain ⟨x45, hx45⟩ : ∃ z : Int32, z = (if (57 : Int32) < p0 then (0 : Int32) else (1 : Int32)) := ⟨_, rfl⟩
                  obtain ⟨T46, X46, e46, K46⟩ : ∃ T' : State, Stand p l e ({ frames := 0, cells := 0, slots := 0, locals := 0 } : Room) s m #[(.int p0)] below meth c T' [] 0 0 ∧ T'.heap = h0 ∧ Own.To p e below B0 T' (mkF m 41 #[vi p0] [(.int x45)]) := by
                    by_cases hc42 : (57 : Int32) < p0
                    · have K43 : Own.To p e below B0 s₁ (mkF m 41 #[vi p0] [(.int 0)]) := fun t k => K41 t (by
                        refine Own.icmpYes X0 hx 40 (D d23_33) (tlt hc42).2.2.1 (by decide) (by decide) ?_
                        refine Own.iconst X0 hx 0 (D d23_40) rfl ?_
                        exact k)
                      exact ⟨s₁, X0, e0, fun t k => K43 t (by rw [hx45, if_pos hc42] at k; exact k)⟩
                    · have K44 : Own.To p e below B0 s₁ (mkF m 41 #[vi p0] [(.int 1)]) := fun t k => K41 t (by
                        refine Own.icmpNo X0 hx (D d23_33) (flt hc42).2.2.1 ?_
                        refine Own.iconst X0 hx 1 (D d23_36) rfl ?_
                        refine Own.goto X0 hx 41 (D d23_37) (by decide) (by decide) ?_
                        exact k)
                      exact ⟨s₁, X0, e0, fun t k => K44 t (by rw [hx45, if_neg hc42] at k; exact k)⟩
                  exact ⟨T46, X46, e46, fun t k => K46 t (by subst hx45; rw [hx47, if_neg hc39] at k; exact k)⟩
              exact ⟨T48, X48, e48, fun t k => K48 t (by subst hx47; rw [hx65, if_pos hc37] at k; exact k)⟩
            · have K49 : Own.To p e below B0 s₁ (mkF m 21 #[vi p0] [(.int 122), (.int p0)]) := fun t k => K36 t (by
                refine Own.icmpNo X0 hx (D d23_15) (flt hc37).1 ?_
                refine Own.iloadN X0 hx (D d23_18) rfl ?_
                refine Own.bipush X0 hx 122 (D d23_19) rfl ?_
                exact k)
              obtain ⟨x63, hx63⟩ : ∃ z : Int32, z = (if (122 : Int32) < p0 then (if p0 < (48 : Int32) then (0 : Int32) else (if (57 : Int32) < p0 then (0 : Int32) else (1 : Int32))) else (1 : Int32)) := ⟨_, rfl⟩
              obtain ⟨T64, X64, e64, K64⟩ : ∃ T' : State, Stand p l e ({ frames := 0, cells := 0, slots := 0, locals := 0 } : Room) s m #[(.int p0)] below meth c T' [] 0 0 ∧ T'.heap = h0 ∧ Own.To p e below B0 T' (mkF m 41 #[vi p0] [(.int x63)]) := by
                by_cases hc50 : (122 : Int32) < p0
                · have K51 : Own.To p e below B0 s₁ (mkF m 27 #[vi p0] [(.int 48), (.int p0)]) := fun t k => K49 t (by
                    refine Own.icmpNo X0 hx (D d23_21) (tlt hc50).2.2.2 ?_
                    refine Own.iloadN X0 hx (D d23_24) rfl ?_
                    refine Own.bipush X0 hx 48 (D d23_25) rfl ?_
                    exact k)
                  obtain ⟨x60, hx60⟩ : ∃ z : Int32, z = (if p0 < (48 : Int32) then (0 : Int32) else (if (57 : Int32) < p0 then (0 : Int32) else (1 : Int32))) := ⟨_, rfl⟩
                  obtain ⟨T61, X61, e61, K61⟩ : ∃ T' : State, Stand p l e ({ frames := 0, cells := 0, slots := 0, locals := 0 } : Room) s m #[(.int p0)] below meth c T' [] 0 0 ∧ T'.heap = h0 ∧ Own.To p e below B0 T' (mkF m 41 #[vi p0] [(.int x60)]) := by
                    by_cases hc52 : p0 < (48 : Int32)
                    · have K53 : Own.To p e below B0 s₁ (mkF m 41 #[vi p0] [(.int 0)]) := fun t k => K51 t (by
                        refine Own.icmpYes X0 hx 40 (D d23_27) (tlt hc52).1 (by decide) (by decide) ?_
                        refine Own.iconst X0 hx 0 (D d23_40) rfl ?_
                        exact k)
                      exact ⟨s₁, X0, e0, fun t k => K53 t (by rw [hx60, if_pos hc52] at k; exact k)⟩
                    · have K54 : Own.To p e below B0 s₁ (mkF m 33 #[vi p0] [(.int 57), (.int p0)]) := fun t k => K51 t (by
                        refine Own.icmpNo X0 hx (D d23_27) (flt hc52).1 ?_
                        refine Own.iloadN X0 hx (D d23_30) rfl ?_
                        refine Own.bipush X0 hx 57 (D d23_31) rfl ?_
                        exact k)
                      obtain ⟨x58, hx58⟩ : ∃ z : Int32, z = (if (57 : Int32) < p0 then (0 : Int32) else (1 : Int32)) := ⟨_, rfl⟩
                      obtain ⟨T59, X59, e59, K59⟩ : ∃ T' : State, Stand p l e ({ frames := 0, cells := 0, slots := 0, locals := 0 } : Room) s m #[(.int p0)] below meth c T' [] 0 0 ∧ T'.heap = h0 ∧ Own.To p e below B0 T' (mkF m 41 #[vi p0] [(.int x58)]) := by
                        by_cases hc55 : (57 : Int32) < p0
                        · have K56 : Own.To p e below B0 s₁ (mkF m 41 #[vi p0] [(.int 0)]) := fun t k => K54 t (by
                            refine Own.icmpYes X0 hx 40 (D d23_33) (tlt hc55).2.2.1 (by decide) (by decide) ?_
                            refine Own.iconst X0 hx 0 (D d23_40) rfl ?_
                            exact k)
                          exact ⟨s₁, X0, e0, fun t k => K56 t (by rw [hx58, if_pos hc55] at k; exact k)⟩
                        · have K57 : Own.To p e below B0 s₁ (mkF m 41 #[vi p0] [(.int 1)]) := fun t k => K54 t (by
                            refine Own.icmpNo X0 hx (D d23_33) (flt hc55).2.2.1 ?_
                            refine Own.iconst X0 hx 1 (D d23_36) rfl ?_
                            refine Own.goto X0 hx 41 (D d23_37) (by decide) (by decide) ?_
                            exact k)
                          exact ⟨s₁, X0, e0, fun t k => K57 t (by rw [hx58, if_neg hc55] at k; exact k)⟩
                      exact ⟨T59, X59, e59, fun t k => K59 t (by subst hx58; rw [hx60, if_neg hc52] at k; exact k)⟩
                  exact ⟨T61, X61, e61, fun t k => K61 t (by subst hx60; rw [hx63, if_pos hc50] at k; exact k)⟩
                · have K62 : Own.To p e below B0 s₁ (mkF m 41 #[vi p0] [(.int 1)]) := fun t k => K49 t (by
                    refine Own.icmpYes X0 hx 36 (D d23_21) (flt hc50).2.2.2 (by decide) (by decide) ?_
                    refine Own.iconst X0 hx 1 (D d23_36) rfl ?_
                    refine Own.goto X0 hx 41 (D d23_37) (by decide) (by decide) ?_
                    exact k)
                  exact ⟨s₁, X0, e0, fun t k => K62 t (by rw [hx63, if_neg hc50] at k; exact k)⟩
              exact ⟨T64, X64, e64, fun t k => K64 t (by subst hx63; rw [hx65, if_neg hc37] at k; exact k)⟩
          exact ⟨T66, X66, e66, fun t k => K66 t (by subst hx65; rw [hx68, if_pos hc35] at k; exact k)⟩
        · have K67 : Own.To p e below B0 s₁ (mkF m 41 #[vi p0] [(.int 1)]) := fun t k => K34 t (by
            refine Own.icmpYes X0 hx 36 (D d23_9) (flt hc35).2.2.2 (by decide) (by decide) ?_
            refine Own.iconst X0 hx 1 (D d23_36) rfl ?_
            refine Own.goto X0 hx 41 (D d23_37) (by decide) (by decide) ?_
            exact k)
          exact ⟨s₁, X0, e0, fun t k => K67 t (by rw [hx68, if_neg hc35] at k; exact k)⟩
      exact ⟨T69, X69, e69, fun t k => K69 t (by subst hx68; rw [hx70, if_neg hc2] at k; exact k)⟩
  exact Own.finN X71 hx (BodyLoose.notSynchronized Bd) Bd.returns (by simp) (D d23_41) K71 (by decide) (by decide) ⟨by subst hx70; unfold F23; rfl, rfl, e71⟩

theorem d38_0 : decode J24 0 = .ok (.iload_n 0, 1) := by decide +kernel
theorem d38_1 : decode J24 1 = .ok (.bipush 32, 2) := by decide +kernel
theorem d38_3 : decode J24 3 = .ok (.if_icmp .eq 9, 3) := by decide +kernel
theorem d38_6 : decode J24 6 = .ok (.iload_n 0, 1) := by decide +kernel
theorem d38_7 : decode J24 7 = .ok (.bipush 9, 2) := by decide +kernel
theorem d38_9 : decode J24 9 = .ok (.if_icmp .ne 7, 3) := by decide +kernel
theorem d38_12 : decode J24 12 = .ok (.iconst 1, 1) := by decide +kernel
theorem d38_13 : decode J24 13 = .ok (.goto 4, 3) := by decide +kernel
theorem d38_16 : decode J24 16 = .ok (.iconst 0, 1) := by decide +kernel
theorem d38_17 : decode J24 17 = .ok (.ireturn, 1) := by decide +kernel
theorem ef_38 (m : MethodId) (p0 : Int32) : entryFrame m #[(.int p0)] 1 = mkF m 0 #[.val (.int p0)] [] := by first | (simp [entryFrame, mkF, argsToLocals, Value.category]; done) | rfl
def F38 (p0 : Int32) : Int32 := (nar .boolean (if p0 = (32 : Int32) then (1 : Int32) else (if p0 = (9 : Int32) then (1 : Int32) else (0 : Int32))))
set_option maxRecDepth 65536 in
set_option maxHeartbeats 40000000 in
theorem c38 (l : Launch) (Z : State) (a0 : Array Value) (hw : ∀ d ∈ tables_1, d.before a0 Z = true) (p0 : Int32) (h0 : Heap) : Own.Con l Z (⟨"com/example/pliktflow/pliktflow/deposit/MediaType", "isSpaceOrTab", "(C)Z"⟩ : MethodName) prog_22_method_12_code 1 (some .boolean) ({ frames := 0, cells := 0, slots := 0, locals := 0 } : Room) #[(.int p0)] h0 (Own.Pure (.int (F38 p0)) h0) := by
  intro ws
  refine MetFree.of_bodySF (plainFor_of_name pn_2) hisR ?_
  intro p e s m args below meth c s₁ Bd hml0 hP hK
  obtain ⟨rfl, hZ, hh⟩ := hP
  have hx := Bd.exec
  have hby := Bd.bytes
  have D := fun {n : Nat} {i} (d : decode prog_22_method_12_code n = .ok i) => hb hby d
  have hml : c.maxLocals = 1 := hml0
  have hown : s.vm.findClass "com/example/pliktflow/pliktflow/deposit/MediaType" = some m.cls := findClass_of_methodNamed Bd.named
  have hnm := (name_of_methodNamed Bd.named Bd.method).1
  have X0 : Stand p l e ({ frames := 0, cells := 0, slots := 0, locals := 0 } : Room) s m #[(.int p0)] below meth c s₁ [] 0 0 := Stand.of_body Bd
  have e0 : s₁.heap = h0 := by rw [← hh, Bd.state]; rfl
  have K0 : ∀ t, Steps p.tables e below (s₁.setTop (mkF m 0 #[vi p0] [])) t → Steps p.tables e below (s₁.setTop (entryFrame m #[(.int p0)] 1)) t := fun t k => castTop (ef_38 m p0) k
  generalize s₁.setTop (entryFrame m #[(.int p0)] 1) = B0 at K0 ⊢
  show Own.Fin p e below B0 s (({ frames := 0, cells := 0, slots := 0, locals := 0 } : Room)).cells (({ frames := 0, cells := 0, slots := 0, locals := 0 } : Room)).slots (Own.Pure (.int (F38 p0)) h0)
  have K1 : Own.To p e below B0 s₁ (mkF m 3 #[vi p0] [(.int 32), (.int p0)]) := fun t k => K0 t (by
    refine Own.iloadN X0 hx (D d38_0) rfl ?_
    refine Own.bipush X0 hx 32 (D d38_1) rfl ?_
    exact k)
  obtain ⟨x10, hx10⟩ : ∃ z : Int32, z = (if p0 = (32 : Int32) then (1 : Int32) else (if p0 = (9 : Int32) then (1 : Int32) else (0 : Int32))) := ⟨_, rfl⟩
  obtain ⟨T11, X11, e11, K11⟩ : ∃ T' : State, Stand p l e ({ frames := 0, cells := 0, slots := 0, locals := 0 } : Room) s m #[(.int p0)] below meth c T' [] 0 0 ∧ T'.heap = h0 ∧ Own.To p e below B0 T' (mkF m 17 #[vi p0] [(.int x10)]) := by
    by_cases hc2 : p0 = (32 : Int32)
    · have K3 : Own.To p e below B0 s₁ (mkF m 17 #[vi p0] [(.int 1)]) := fun t k => K1 t (by
        refine Own.icmpYes X0 hx 12 (D d38_3) (teq hc2).1 (by decide) (by decide) ?_
        refine Own.iconst X0 hx 1 (D d38_12) rfl ?_
        refine Own.goto X0 hx 17 (D d38_13) (by decide) (by decide) ?_
        exact k)
      exact ⟨s₁, X0, e0, fun t k => K3 t (by rw [hx10, if_pos hc2] at k; exact k)⟩
    · have K4 : Own.To p e below B0 s₁ (mkF m 9 #[vi p0] [(.int 9), (.int p0)]) := fun t k => K1 t (by
        refine Own.icmpNo X0 hx (D d38_3) (feq hc2).1 ?_
        refine Own.iloadN X0 hx (D d38_6) rfl ?_
        refine Own.bipush X0 hx 9 (D d38_7) rfl ?_
        exact k)
      obtain ⟨x8, hx8⟩ : ∃ z : Int32, z = (if p0 = (9 : Int32) then (1 : Int32) else (0 : Int32)) := ⟨_, rfl⟩
      obtain ⟨T9, X9, e9, K9⟩ : ∃ T' : State, Stand p l e ({ frames := 0, cells := 0, slots := 0, locals := 0 } : Room) s m #[(.int p0)] below meth c T' [] 0 0 ∧ T'.heap = h0 ∧ Own.To p e below B0 T' (mkF m 17 #[vi p0] [(.int x8)]) := by
        by_cases hc5 : p0 = (9 : Int32)
        · have K6 : Own.To p e below B0 s₁ (mkF m 17 #[vi p0] [(.int 1)]) := fun t k => K4 t (by
            refine Own.icmpNo X0 hx (D d38_9) (teq hc5).2 ?_
            refine Own.iconst X0 hx 1 (D d38_12) rfl ?_
            refine Own.goto X0 hx 17 (D d38_13) (by decide) (by decide) ?_
            exact k)
          exact ⟨s₁, X0, e0, fun t k => K6 t (by rw [hx8, if_pos hc5] at k; exact k)⟩
        · have K7 : Own.To p e below B0 s₁ (mkF m 17 #[vi p0] [(.int 0)]) := fun t k => K4 t (by
            refine Own.icmpYes X0 hx 16 (D d38_9) (feq hc5).2 (by decide) (by decide) ?_
            refine Own.iconst X0 hx 0 (D d38_16) rfl ?_
            exact k)
          exact ⟨s₁, X0, e0, fun t k => K7 t (by rw [hx8, if_neg hc5] at k; exact k)⟩
      exact ⟨T9, X9, e9, fun t k => K9 t (by subst hx8; rw [hx10, if_neg hc2] at k; exact k)⟩
  exact Own.finN X11 hx (BodyLoose.notSynchronized Bd) Bd.returns (by simp) (D d38_17) K11 (by decide) (by decide) ⟨by subst hx10; unfold F38; rfl, rfl, e11⟩

theorem d43_0 : decode J23 0 = .ok (.iload_n 0, 1) := by decide +kernel
theorem d43_1 : decode J23 1 = .ok (.invokestatic 54, 3) := by decide +kernel
theorem d43_4 : decode J23 4 = .ok (.ifCond .ne 15, 3) := by decide +kernel
theorem d43_7 : decode J23 7 = .ok (.iload_n 0, 1) := by decide +kernel
theorem d43_8 : decode J23 8 = .ok (.bipush 32, 2) := by decide +kernel
theorem d43_10 : decode J23 10 = .ok (.if_icmp .le 13, 3) := by decide +kernel
theorem d43_13 : decode J23 13 = .ok (.iload_n 0, 1) := by decide +kernel
theorem d43_14 : decode J23 14 = .ok (.bipush 126, 2) := by decide +kernel
theorem d43_16 : decode J23 16 = .ok (.if_icmp .gt 7, 3) := by decide +kernel
theorem d43_19 : decode J23 19 = .ok (.iconst 1, 1) := by decide +kernel
theorem d43_20 : decode J23 20 = .ok (.goto 4, 3) := by decide +kernel
theorem d43_23 : decode J23 23 = .ok (.iconst 0, 1) := by decide +kernel
theorem d43_24 : decode J23 24 = .ok (.ireturn, 1) := by decide +kernel
theorem ef_43 (m : MethodId) (p0 : Int32) : entryFrame m #[(.int p0)] 1 = mkF m 0 #[.val (.int p0)] [] := by first | (simp [entryFrame, mkF, argsToLocals, Value.category]; done) | rfl
def F43 (p0 : Int32) : Int32 := (nar .boolean (if (F38 p0) = (0 : Int32) then (if (32 : Int32) < p0 then (if (126 : Int32) < p0 then (0 : Int32) else (1 : Int32)) else (0 : Int32)) else (1 : Int32)))
set_option maxRecDepth 65536 in
set_option maxHeartbeats 40000000 in
theorem c43 (l : Launch) (Z : State) (a0 : Array Value) (hw : ∀ d ∈ tables_1, d.before a0 Z = true) (p0 : Int32) (h0 : Heap) : Own.Con l Z (⟨"com/example/pliktflow/pliktflow/deposit/MediaType", "isTextCharacter", "(C)Z"⟩ : MethodName) prog_22_method_11_code 1 (some .boolean) ({ frames := 1, cells := 0, slots := 0, locals := 12 } : Room) #[(.int p0)] h0 (Own.Pure (.int (F43 p0)) h0) := by
  intro ws
  refine MetFree.of_bodySF (plainFor_of_name pn_2) hisR ?_
  intro p e s m args below meth c s₁ Bd hml0 hP hK
  obtain ⟨rfl, hZ, hh⟩ := hP
  have hx := Bd.exec
  have hby := Bd.bytes
  have D := fun {n : Nat} {i} (d : decode prog_22_method_11_code n = .ok i) => hb hby d
  have hml : c.maxLocals = 1 := hml0
  have hown : s.vm.findClass "com/example/pliktflow/pliktflow/deposit/MediaType" = some m.cls := findClass_of_methodNamed Bd.named
  have hnm := (name_of_methodNamed Bd.named Bd.method).1
  have X0 : Stand p l e ({ frames := 1, cells := 0, slots := 0, locals := 12 } : Room) s m #[(.int p0)] below meth c s₁ [] 0 0 := Stand.of_body Bd
  have e0 : s₁.heap = h0 := by rw [← hh, Bd.state]; rfl
  have K0 : ∀ t, Steps p.tables e below (s₁.setTop (mkF m 0 #[vi p0] [])) t → Steps p.tables e below (s₁.setTop (entryFrame m #[(.int p0)] 1)) t := fun t k => castTop (ef_43 m p0) k
  generalize s₁.setTop (entryFrame m #[(.int p0)] 1) = B0 at K0 ⊢
  show Own.Fin p e below B0 s (({ frames := 1, cells := 0, slots := 0, locals := 12 } : Room)).cells (({ frames := 1, cells := 0, slots := 0, locals := 12 } : Room)).slots (Own.Pure (.int (F43 p0)) h0)
  have K1 : Own.To p e below B0 s₁ (mkF m 1 #[vi p0] [(.int p0)]) := fun t k => K0 t (by
    refine Own.iloadN X0 hx (D d43_0) rfl ?_
    exact k)
  obtain ⟨T2, X2, e2, st2⟩ := Own.callP (Ls := #[vi p0]) X0 hx hZ e0 [(.int p0)] [] (c38 l Z a0 hw p0  h0 ) hown (W_ hw 151 rfl) (W_ hw 152 rfl) (W_ hw 45 rfl) (W_ hw 153 rfl) (by decide) 0 rfl rfl (by decide) (by decide) (by decide) (by decide) (szOf hml rfl) (lenOf pd_3 rfl) rfl (Nat.le_of_eq rfl) (D d43_1)
  have K3 := fun t k => K1 t (st2 t k)
  obtain ⟨x17, hx17⟩ : ∃ z : Int32, z = (if (F38 p0) = (0 : Int32) then (if (32 : Int32) < p0 then (if (126 : Int32) < p0 then (0 : Int32) else (1 : Int32)) else (0 : Int32)) else (1 : Int32)) := ⟨_, rfl⟩
  obtain ⟨T18, X18, e18, K18⟩ : ∃ T' : State, Stand p l e ({ frames := 1, cells := 0, slots := 0, locals := 12 } : Room) s m #[(.int p0)] below meth c T' [] 0 0 ∧ T'.heap = h0 ∧ Own.To p e below B0 T' (mkF m 24 #[vi p0] [(.int x17)]) := by
    by_cases hc4 : (F38 p0) = (0 : Int32)
    · have K5 : Own.To p e below B0 T2 (mkF m 10 #[vi p0] [(.int 32), (.int p0)]) := fun t k => K3 t (by
        refine Own.ifNo X2 hx (D d43_4) ((if0 _ _).trans (teq hc4).2) ?_
        refine Own.iloadN X2 hx (D d43_7) rfl ?_
        refine Own.bipush X2 hx 32 (D d43_8) rfl ?_
        exact k)
      obtain ⟨x14, hx14⟩ : ∃ z : Int32, z = (if (32 : Int32) < p0 then (if (126 : Int32) < p0 then (0 : Int32) else (1 : Int32)) else (0 : Int32)) := ⟨_, rfl⟩
      obtain ⟨T15, X15, e15, K15⟩ : ∃ T' : State, Stand p l e ({ frames := 1, cells := 0, slots := 0, locals := 12 } : Room) s m #[(.int p0)] below meth c T' [] 0 0 ∧ T'.heap = h0 ∧ Own.To p e below B0 T' (mkF m 24 #[vi p0] [(.int x14)]) := by
        by_cases hc6 : (32 : Int32) < p0
        · have K7 : Own.To p e below B0 T2 (mkF m 16 #[vi p0] [(.int 126), (.int p0)]) := fun t k => K5 t (by
            refine Own.icmpNo X2 hx (D d43_10) (tlt hc6).2.2.2 ?_
            refine Own.iloadN X2 hx (D d43_13) rfl ?_
            refine Own.bipush X2 hx 126 (D d43_14) rfl ?_
            exact k)
          obtain ⟨x11, hx11⟩ : ∃ z : Int32, z = (if (126 : Int32) < p0 then (0 : Int32) else (1 : Int32)) := ⟨_, rfl⟩
          obtain ⟨T12, X12, e12, K12⟩ : ∃ T' : State, Stand p l e ({ frames := 1, cells := 0, slots := 0, locals := 12 } : Room) s m #[(.int p0)] below meth c T' [] 0 0 ∧ T'.heap = h0 ∧ Own.To p e below B0 T' (mkF m 24 #[vi p0] [(.int x11)]) := by
            by_cases hc8 : (126 : Int32) < p0
            · have K9 : Own.To p e below B0 T2 (mkF m 24 #[vi p0] [(.int 0)]) := fun t k => K7 t (by
                refine Own.icmpYes X2 hx 23 (D d43_16) (tlt hc8).2.2.1 (by decide) (by decide) ?_
                refine Own.iconst X2 hx 0 (D d43_23) rfl ?_
                exact k)
              exact ⟨T2, X2, e2, fun t k => K9 t (by rw [hx11, if_pos hc8] at k; exact k)⟩
            · have K10 : Own.To p e below B0 T2 (mkF m 24 #[vi p0] [(.int 1)]) := fun t k => K7 t (by
                refine Own.icmpNo X2 hx (D d43_16) (flt hc8).2.2.1 ?_
                refine Own.iconst X2 hx 1 (D d43_19) rfl ?_
                refine Own.goto X2 hx 24 (D d43_20) (by decide) (by decide) ?_
                exact k)
              exact ⟨T2, X2, e2, fun t k => K10 t (by rw [hx11, if_neg hc8] at k; exact k)⟩
          exact ⟨T12, X12, e12, fun t k => K12 t (by subst hx11; rw [hx14, if_pos hc6] at k; exact k)⟩
        · have K13 : Own.To p e below B0 T2 (mkF m 24 #[vi p0] [(.int 0)]) := fun t k => K5 t (by
            refine Own.icmpYes X2 hx 23 (D d43_10) (flt hc6).2.2.2 (by decide) (by decide) ?_
            refine Own.iconst X2 hx 0 (D d43_23) rfl ?_
            exact k)
          exact ⟨T2, X2, e2, fun t k => K13 t (by rw [hx14, if_neg hc6] at k; exact k)⟩
      exact ⟨T15, X15, e15, fun t k => K15 t (by subst hx14; rw [hx17, if_pos hc4] at k; exact k)⟩
    · have K16 : Own.To p e below B0 T2 (mkF m 24 #[vi p0] [(.int 1)]) := fun t k => K3 t (by
        refine Own.ifYes X2 hx 19 (D d43_4) ((if0 _ _).trans (feq hc4).2) (by decide) (by decide) ?_
        refine Own.iconst X2 hx 1 (D d43_19) rfl ?_
        refine Own.goto X2 hx 24 (D d43_20) (by decide) (by decide) ?_
        exact k)
      exact ⟨T2, X2, e2, fun t k => K16 t (by rw [hx17, if_neg hc4] at k; exact k)⟩
  exact Own.finN X18 hx (BodyLoose.notSynchronized Bd) Bd.returns (by simp) (D d43_24) K18 (by decide) (by decide) ⟨by subst hx17; unfold F43; rfl, rfl, e18⟩

theorem d33_0 : decode J9 0 = .ok (.iload_n 0, 1) := by decide +kernel
theorem d33_1 : decode J9 1 = .ok (.ifCond .lt 14, 3) := by decide +kernel
theorem d33_4 : decode J9 4 = .ok (.iload_n 0, 1) := by decide +kernel
theorem d33_5 : decode J9 5 = .ok (.sipush 255, 3) := by decide +kernel
theorem d33_8 : decode J9 8 = .ok (.if_icmp .gt 7, 3) := by decide +kernel
theorem d33_11 : decode J9 11 = .ok (.iconst 1, 1) := by decide +kernel
theorem d33_12 : decode J9 12 = .ok (.goto 4, 3) := by decide +kernel
theorem d33_15 : decode J9 15 = .ok (.iconst 0, 1) := by decide +kernel
theorem d33_16 : decode J9 16 = .ok (.ireturn, 1) := by decide +kernel
theorem pn_3 : plainName "java/lang/StringLatin1" = true := by first | (simp [plainName, overriddenIn]; done) | decide +kernel
theorem ef_33 (m : MethodId) (p0 : Int32) : entryFrame m #[(.int p0)] 1 = mkF m 0 #[.val (.int p0)] [] := by first | (simp [entryFrame, mkF, argsToLocals, Value.category]; done) | rfl
def F33 (p0 : Int32) : Int32 := (nar .boolean (if p0 < (0 : Int32) then (0 : Int32) else (if (255 : Int32) < p0 then (0 : Int32) else (1 : Int32))))
set_option maxRecDepth 65536 in
set_option maxHeartbeats 40000000 in
theorem c33 (l : Launch) (Z : State) (a0 : Array Value) (hw : ∀ d ∈ tables_1, d.before a0 Z = true) (p0 : Int32) (h0 : Heap) : Own.Con l Z (⟨"java/lang/StringLatin1", "canEncode", "(I)Z"⟩ : MethodName) jdk_43_method_4_code 1 (some .boolean) ({ frames := 0, cells := 0, slots := 0, locals := 0 } : Room) #[(.int p0)] h0 (Own.Pure (.int (F33 p0)) h0) := by
  intro ws
  refine MetFree.of_bodySF (plainFor_of_name pn_3) hisR ?_
  intro p e s m args below meth c s₁ Bd hml0 hP hK
  obtain ⟨rfl, hZ, hh⟩ := hP
  have hx := Bd.exec
  have hby := Bd.bytes
  have D := fun {n : Nat} {i} (d : decode jdk_43_method_4_code n = .ok i) => hb hby d
  have hml : c.maxLocals = 1 := hml0
  have hown : s.vm.findClass "java/lang/StringLatin1" = some m.cls := findClass_of_methodNamed Bd.named
  have hnm := (name_of_methodNamed Bd.named Bd.method).1
  have X0 : Stand p l e ({ frames := 0, cells := 0, slots := 0, locals := 0 } : Room) s m #[(.int p0)] below meth c s₁ [] 0 0 := Stand.of_body Bd
  have e0 : s₁.heap = h0 := by rw [← hh, Bd.state]; rfl
  have K0 : ∀ t, Steps p.tables e below (s₁.setTop (mkF m 0 #[vi p0] [])) t → Steps p.tables e below (s₁.setTop (entryFrame m #[(.int p0)] 1)) t := fun t k => castTop (ef_33 m p0) k
  generalize s₁.setTop (entryFrame m #[(.int p0)] 1) = B0 at K0 ⊢
  show Own.Fin p e below B0 s (({ frames := 0, cells := 0, slots := 0, locals := 0 } : Room)).cells (({ frames := 0, cells := 0, slots := 0, locals := 0 } : Room)).slots (Own.Pure (.int (F33 p0)) h0)
  have K1 : Own.To p e below B0 s₁ (mkF m 1 #[vi p0] [(.int p0)]) := fun t k => K0 t (by
    refine Own.iloadN X0 hx (D d33_0) rfl ?_
    exact k)
  obtain ⟨x10, hx10⟩ : ∃ z : Int32, z = (if p0 < (0 : Int32) then (0 : Int32) else (if (255 : Int32) < p0 then (0 : Int32) else (1 : Int32))) := ⟨_, rfl⟩
  obtain ⟨T11, X11, e11, K11⟩ : ∃ T' : State, Stand p l e ({ frames := 0, cells := 0, slots := 0, locals := 0 } : Room) s m #[(.int p0)] below meth c T' [] 0 0 ∧ T'.heap = h0 ∧ Own.To p e below B0 T' (mkF m 16 #[vi p0] [(.int x10)]) := by
    by_cases hc2 : p0 < (0 : Int32)
    · have K3 : Own.To p e below B0 s₁ (mkF m 16 #[vi p0] [(.int 0)]) := fun t k => K1 t (by
        refine Own.ifYes X0 hx 15 (D d33_1) ((if0 _ _).trans (tlt hc2).1) (by decide) (by decide) ?_
        refine Own.iconst X0 hx 0 (D d33_15) rfl ?_
        exact k)
      exact ⟨s₁, X0, e0, fun t k => K3 t (by rw [hx10, if_pos hc2] at k; exact k)⟩
    · have K4 : Own.To p e below B0 s₁ (mkF m 8 #[vi p0] [(.int 255), (.int p0)]) := fun t k => K1 t (by
        refine Own.ifNo X0 hx (D d33_1) ((if0 _ _).trans (flt hc2).1) ?_
        refine Own.iloadN X0 hx (D d33_4) rfl ?_
        refine Own.sipush X0 hx 255 (D d33_5) rfl ?_
        exact k)
      obtain ⟨x8, hx8⟩ : ∃ z : Int32, z = (if (255 : Int32) < p0 then (0 : Int32) else (1 : Int32)) := ⟨_, rfl⟩
      obtain ⟨T9, X9, e9, K9⟩ : ∃ T' : State, Stand p l e ({ frames := 0, cells := 0, slots := 0, locals := 0 } : Room) s m #[(.int p0)] below meth c T' [] 0 0 ∧ T'.heap = h0 ∧ Own.To p e below B0 T' (mkF m 16 #[vi p0] [(.int x8)]) := by
        by_cases hc5 : (255 : Int32) < p0
        · have K6 : Own.To p e below B0 s₁ (mkF m 16 #[vi p0] [(.int 0)]) := fun t k => K4 t (by
            refine Own.icmpYes X0 hx 15 (D d33_8) (tlt hc5).2.2.1 (by decide) (by decide) ?_
            refine Own.iconst X0 hx 0 (D d33_15) rfl ?_
            exact k)
          exact ⟨s₁, X0, e0, fun t k => K6 t (by rw [hx8, if_pos hc5] at k; exact k)⟩
        · have K7 : Own.To p e below B0 s₁ (mkF m 16 #[vi p0] [(.int 1)]) := fun t k => K4 t (by
            refine Own.icmpNo X0 hx (D d33_8) (flt hc5).2.2.1 ?_
            refine Own.iconst X0 hx 1 (D d33_11) rfl ?_
            refine Own.goto X0 hx 16 (D d33_12) (by decide) (by decide) ?_
            exact k)
          exact ⟨s₁, X0, e0, fun t k => K7 t (by rw [hx8, if_neg hc5] at k; exact k)⟩
      exact ⟨T9, X9, e9, fun t k => K9 t (by subst hx8; rw [hx10, if_neg hc2] at k; exact k)⟩
  exact Own.finN X11 hx (BodyLoose.notSynchronized Bd) Bd.returns (by simp) (D d33_16) K11 (by decide) (by decide) ⟨by subst hx10; unfold F33; rfl, rfl, e11⟩

theorem d34_0 : decode J0 0 = .ok (.iload_n 0, 1) := by decide +kernel
theorem d34_1 : decode J0 1 = .ok (.iload_n 1, 1) := by decide +kernel
theorem d34_2 : decode J0 2 = .ok (.if_icmp .lt 7, 3) := by decide +kernel
theorem d34_5 : decode J0 5 = .ok (.iload_n 0, 1) := by decide +kernel
theorem d34_6 : decode J0 6 = .ok (.goto 4, 3) := by decide +kernel
theorem d34_9 : decode J0 9 = .ok (.iload_n 1, 1) := by decide +kernel
theorem d34_10 : decode J0 10 = .ok (.ireturn, 1) := by decide +kernel
theorem ef_34 (m : MethodId) (p0 : Int32) (p1 : Int32) : entryFrame m #[(.int p0), (.int p1)] 2 = mkF m 0 #[.val (.int p0), .val (.int p1)] [] := by first | (simp [entryFrame, mkF, argsToLocals, Value.category]; done) | rfl
def F34 (p0 : Int32) (p1 : Int32) : Int32 := (if p0 < p1 then p1 else p0)
set_option maxRecDepth 65536 in
set_option maxHeartbeats 40000000 in
theorem c34 (l : Launch) (Z : State) (a0 : Array Value) (hw : ∀ d ∈ tables_1, d.before a0 Z = true) (p0 : Int32) (p1 : Int32) (h0 : Heap) : Own.Con l Z (⟨"java/lang/Math", "max", "(II)I"⟩ : MethodName) jdk_29_method_65_code 2 (some .int) ({ frames := 0, cells := 0, slots := 0, locals := 0 } : Room) #[(.int p0), (.int p1)] h0 (Own.Pure (.int (F34 p0 p1)) h0) := by
  intro ws
  refine MetFree.of_bodySF (Jvm.Free.JP.mathPlain rfl (by decide +kernel)) hisR ?_
  intro p e s m args below meth c s₁ Bd hml0 hP hK
  obtain ⟨rfl, hZ, hh⟩ := hP
  have hx := Bd.exec
  have hby := Bd.bytes
  have D := fun {n : Nat} {i} (d : decode jdk_29_method_65_code n = .ok i) => hb hby d
  have hml : c.maxLocals = 2 := hml0
  have hown : s.vm.findClass "java/lang/Math" = some m.cls := findClass_of_methodNamed Bd.named
  have hnm := (name_of_methodNamed Bd.named Bd.method).1
  have X0 : Stand p l e ({ frames := 0, cells := 0, slots := 0, locals := 0 } : Room) s m #[(.int p0), (.int p1)] below meth c s₁ [] 0 0 := Stand.of_body Bd
  have e0 : s₁.heap = h0 := by rw [← hh, Bd.state]; rfl
  have K0 : ∀ t, Steps p.tables e below (s₁.setTop (mkF m 0 #[vi p0, vi p1] [])) t → Steps p.tables e below (s₁.setTop (entryFrame m #[(.int p0), (.int p1)] 2)) t := fun t k => castTop (ef_34 m p0 p1) k
  generalize s₁.setTop (entryFrame m #[(.int p0), (.int p1)] 2) = B0 at K0 ⊢
  show Own.Fin p e below B0 s (({ frames := 0, cells := 0, slots := 0, locals := 0 } : Room)).cells (({ frames := 0, cells := 0, slots := 0, locals := 0 } : Room)).slots (Own.Pure (.int (F34 p0 p1)) h0)
  have K1 : Own.To p e below B0 s₁ (mkF m 2 #[vi p0, vi p1] [(.int p1), (.int p0)]) := fun t k => K0 t (by
    refine Own.iloadN X0 hx (D d34_0) rfl ?_
    refine Own.iloadN X0 hx (D d34_1) rfl ?_
    exact k)
  obtain ⟨x5, hx5⟩ : ∃ z : Int32, z = (if p0 < p1 then p1 else p0) := ⟨_, rfl⟩
  obtain ⟨T6, X6, e6, K6⟩ : ∃ T' : State, Stand p l e ({ frames := 0, cells := 0, slots := 0, locals := 0 } : Room) s m #[(.int p0), (.int p1)] below meth c T' [] 0 0 ∧ T'.heap = h0 ∧ Own.To p e below B0 T' (mkF m 10 #[vi p0, vi p1] [(.int x5)]) := by
    by_cases hc2 : p0 < p1
    · have K3 : Own.To p e below B0 s₁ (mkF m 10 #[vi p0, vi p1] [(.int p1)]) := fun t k => K1 t (by
        refine Own.icmpYes X0 hx 9 (D d34_2) (tlt hc2).1 (by decide) (by decide) ?_
        refine Own.iloadN X0 hx (D d34_9) rfl ?_
        exact k)
      exact ⟨s₁, X0, e0, fun t k => K3 t (by rw [hx5, if_pos hc2] at k; exact k)⟩
    · have K4 : Own.To p e below B0 s₁ (mkF m 10 #[vi p0, vi p1] [(.int p0)]) := fun t k => K1 t (by
        refine Own.icmpNo X0 hx (D d34_2) (flt hc2).1 ?_
        refine Own.iloadN X0 hx (D d34_5) rfl ?_
        refine Own.goto X0 hx 10 (D d34_6) (by decide) (by decide) ?_
        exact k)
      exact ⟨s₁, X0, e0, fun t k => K4 t (by rw [hx5, if_neg hc2] at k; exact k)⟩
  exact Own.finI X6 hx (BodyLoose.notSynchronized Bd) Bd.returns (D d34_10) K6 (by decide) (by decide) ⟨by subst hx5; unfold F34; rfl, rfl, e6⟩

theorem d35_0 : decode J1 0 = .ok (.iload_n 0, 1) := by decide +kernel
theorem d35_1 : decode J1 1 = .ok (.iload_n 1, 1) := by decide +kernel
theorem d35_2 : decode J1 2 = .ok (.if_icmp .gt 7, 3) := by decide +kernel
theorem d35_5 : decode J1 5 = .ok (.iload_n 0, 1) := by decide +kernel
theorem d35_6 : decode J1 6 = .ok (.goto 4, 3) := by decide +kernel
theorem d35_9 : decode J1 9 = .ok (.iload_n 1, 1) := by decide +kernel
theorem d35_10 : decode J1 10 = .ok (.ireturn, 1) := by decide +kernel
theorem ef_35 (m : MethodId) (p0 : Int32) (p1 : Int32) : entryFrame m #[(.int p0), (.int p1)] 2 = mkF m 0 #[.val (.int p0), .val (.int p1)] [] := by first | (simp [entryFrame, mkF, argsToLocals, Value.category]; done) | rfl
def F35 (p0 : Int32) (p1 : Int32) : Int32 := (if p1 < p0 then p1 else p0)
set_option maxRecDepth 65536 in
set_option maxHeartbeats 40000000 in
theorem c35 (l : Launch) (Z : State) (a0 : Array Value) (hw : ∀ d ∈ tables_1, d.before a0 Z = true) (p0 : Int32) (p1 : Int32) (h0 : Heap) : Own.Con l Z (⟨"java/lang/Math", "min", "(II)I"⟩ : MethodName) jdk_29_method_69_code 2 (some .int) ({ frames := 0, cells := 0, slots := 0, locals := 0 } : Room) #[(.int p0), (.int p1)] h0 (Own.Pure (.int (F35 p0 p1)) h0) := by
  intro ws
  refine MetFree.of_bodySF (Jvm.Free.JP.mathPlain rfl (by decide +kernel)) hisR ?_
  intro p e s m args below meth c s₁ Bd hml0 hP hK
  obtain ⟨rfl, hZ, hh⟩ := hP
  have hx := Bd.exec
  have hby := Bd.bytes
  have D := fun {n : Nat} {i} (d : decode jdk_29_method_69_code n = .ok i) => hb hby d
  have hml : c.maxLocals = 2 := hml0
  have hown : s.vm.findClass "java/lang/Math" = some m.cls := findClass_of_methodNamed Bd.named
  have hnm := (name_of_methodNamed Bd.named Bd.method).1
  have X0 : Stand p l e ({ frames := 0, cells := 0, slots := 0, locals := 0 } : Room) s m #[(.int p0), (.int p1)] below meth c s₁ [] 0 0 := Stand.of_body Bd
  have e0 : s₁.heap = h0 := by rw [← hh, Bd.state]; rfl
  have K0 : ∀ t, Steps p.tables e below (s₁.setTop (mkF m 0 #[vi p0, vi p1] [])) t → Steps p.tables e below (s₁.setTop (entryFrame m #[(.int p0), (.int p1)] 2)) t := fun t k => castTop (ef_35 m p0 p1) k
  generalize s₁.setTop (entryFrame m #[(.int p0), (.int p1)] 2) = B0 at K0 ⊢
  show Own.Fin p e below B0 s (({ frames := 0, cells := 0, slots := 0, locals := 0 } : Room)).cells (({ frames := 0, cells := 0, slots := 0, locals := 0 } : Room)).slots (Own.Pure (.int (F35 p0 p1)) h0)
  have K1 : Own.To p e below B0 s₁ (mkF m 2 #[vi p0, vi p1] [(.int p1), (.int p0)]) := fun t k => K0 t (by
    refine Own.iloadN X0 hx (D d35_0) rfl ?_
    refine Own.iloadN X0 hx (D d35_1) rfl ?_
    exact k)
  obtain ⟨x5, hx5⟩ : ∃ z : Int32, z = (if p1 < p0 then p1 else p0) := ⟨_, rfl⟩
  obtain ⟨T6, X6, e6, K6⟩ : ∃ T' : State, Stand p l e ({ frames := 0, cells := 0, slots := 0, locals := 0 } : Room) s m #[(.int p0), (.int p1)] below meth c T' [] 0 0 ∧ T'.heap = h0 ∧ Own.To p e below B0 T' (mkF m 10 #[vi p0, vi p1] [(.int x5)]) := by
    by_cases hc2 : p1 < p0
    · have K3 : Own.To p e below B0 s₁ (mkF m 10 #[vi p0, vi p1] [(.int p1)]) := fun t k => K1 t (by
        refine Own.icmpYes X0 hx 9 (D d35_2) (tlt hc2).2.2.1 (by decide) (by decide) ?_
        refine Own.iloadN X0 hx (D d35_9) rfl ?_
        exact k)
      exact ⟨s₁, X0, e0, fun t k => K3 t (by rw [hx5, if_pos hc2] at k; exact k)⟩
    · have K4 : Own.To p e below B0 s₁ (mkF m 10 #[vi p0, vi p1] [(.int p0)]) := fun t k => K1 t (by
        refine Own.icmpNo X0 hx (D d35_2) (flt hc2).2.2.1 ?_
        refine Own.iloadN X0 hx (D d35_5) rfl ?_
        refine Own.goto X0 hx 10 (D d35_6) (by decide) (by decide) ?_
        exact k)
      exact ⟨s₁, X0, e0, fun t k => K4 t (by rw [hx5, if_neg hc2] at k; exact k)⟩
  exact Own.finI X6 hx (BodyLoose.notSynchronized Bd) Bd.returns (D d35_10) K6 (by decide) (by decide) ⟨by subst hx5; unfold F35; rfl, rfl, e6⟩

def own_rn (p1 : Int32) (cs : List Int32) : Nat → Int32
  | 0 => 0
  | k + 1 => if Int32.ofNat k < p1 then F16 (own_rn p1 cs k) (cs.getD k 0) else own_rn p1 cs k

theorem d7_0 : decode J18 0 = .ok (.iconst 0, 1) := by decide +kernel
theorem d7_1 : decode J18 1 = .ok (.istore_n 2, 1) := by decide +kernel
theorem d7_2 : decode J18 2 = .ok (.iload_n 1, 1) := by decide +kernel
theorem d7_3 : decode J18 3 = .ok (.ifCond .le 11, 3) := by decide +kernel
theorem d7_6 : decode J18 6 = .ok (.iload_n 2, 1) := by decide +kernel
theorem d7_7 : decode J18 7 = .ok (.aload_n 0, 1) := by decide +kernel
theorem d7_8 : decode J18 8 = .ok (.iconst 0, 1) := by decide +kernel
theorem d7_9 : decode J18 9 = .ok (.caload, 1) := by decide +kernel
theorem d7_10 : decode J18 10 = .ok (.invokestatic 49, 3) := by decide +kernel
theorem d7_13 : decode J18 13 = .ok (.istore_n 2, 1) := by decide +kernel
theorem d7_14 : decode J18 14 = .ok (.iload_n 1, 1) := by decide +kernel
theorem d7_15 : decode J18 15 = .ok (.iconst 1, 1) := by decide +kernel
theorem d7_16 : decode J18 16 = .ok (.if_icmp .le 11, 3) := by decide +kernel
theorem d7_19 : decode J18 19 = .ok (.iload_n 2, 1) := by decide +kernel
theorem d7_20 : decode J18 20 = .ok (.aload_n 0, 1) := by decide +kernel
theorem d7_21 : decode J18 21 = .ok (.iconst 1, 1) := by decide +kernel
theorem d7_22 : decode J18 22 = .ok (.caload, 1) := by decide +kernel
theorem d7_23 : decode J18 23 = .ok (.invokestatic 49, 3) := by decide +kernel
theorem d7_26 : decode J18 26 = .ok (.istore_n 2, 1) := by decide +kernel
theorem d7_27 : decode J18 27 = .ok (.iload_n 1, 1) := by decide +kernel
theorem d7_28 : decode J18 28 = .ok (.iconst 2, 1) := by decide +kernel
theorem d7_29 : decode J18 29 = .ok (.if_icmp .le 11, 3) := by decide +kernel
theorem d7_32 : decode J18 32 = .ok (.iload_n 2, 1) := by decide +kernel
theorem d7_33 : decode J18 33 = .ok (.aload_n 0, 1) := by decide +kernel
theorem d7_34 : decode J18 34 = .ok (.iconst 2, 1) := by decide +kernel
theorem d7_35 : decode J18 35 = .ok (.caload, 1) := by decide +kernel
theorem d7_36 : decode J18 36 = .ok (.invokestatic 49, 3) := by decide +kernel
theorem d7_39 : decode J18 39 = .ok (.istore_n 2, 1) := by decide +kernel
theorem d7_40 : decode J18 40 = .ok (.iload_n 1, 1) := by decide +kernel
theorem d7_41 : decode J18 41 = .ok (.iconst 3, 1) := by decide +kernel
theorem d7_42 : decode J18 42 = .ok (.if_icmp .le 11, 3) := by decide +kernel
theorem d7_45 : decode J18 45 = .ok (.iload_n 2, 1) := by decide +kernel
theorem d7_46 : decode J18 46 = .ok (.aload_n 0, 1) := by decide +kernel
theorem d7_47 : decode J18 47 = .ok (.iconst 3, 1) := by decide +kernel
theorem d7_48 : decode J18 48 = .ok (.caload, 1) := by decide +kernel
theorem d7_49 : decode J18 49 = .ok (.invokestatic 49, 3) := by decide +kernel
theorem d7_52 : decode J18 52 = .ok (.istore_n 2, 1) := by decide +kernel
theorem d7_53 : decode J18 53 = .ok (.iload_n 1, 1) := by decide +kernel
theorem d7_54 : decode J18 54 = .ok (.iconst 4, 1) := by decide +kernel
theorem d7_55 : decode J18 55 = .ok (.if_icmp .le 11, 3) := by decide +kernel
theorem d7_58 : decode J18 58 = .ok (.iload_n 2, 1) := by decide +kernel
theorem d7_59 : decode J18 59 = .ok (.aload_n 0, 1) := by decide +kernel
theorem d7_60 : decode J18 60 = .ok (.iconst 4, 1) := by decide +kernel
theorem d7_61 : decode J18 61 = .ok (.caload, 1) := by decide +kernel
theorem d7_62 : decode J18 62 = .ok (.invokestatic 49, 3) := by decide +kernel
theorem d7_65 : decode J18 65 = .ok (.istore_n 2, 1) := by decide +kernel
theorem d7_66 : decode J18 66 = .ok (.iload_n 1, 1) := by decide +kernel
theorem d7_67 : decode J18 67 = .ok (.iconst 5, 1) := by decide +kernel
theorem d7_68 : decode J18 68 = .ok (.if_icmp .le 11, 3) := by decide +kernel
theorem d7_71 : decode J18 71 = .ok (.iload_n 2, 1) := by decide +kernel
theorem d7_72 : decode J18 72 = .ok (.aload_n 0, 1) := by decide +kernel
theorem d7_73 : decode J18 73 = .ok (.iconst 5, 1) := by decide +kernel
theorem d7_74 : decode J18 74 = .ok (.caload, 1) := by decide +kernel
theorem d7_75 : decode J18 75 = .ok (.invokestatic 49, 3) := by decide +kernel
theorem d7_78 : decode J18 78 = .ok (.istore_n 2, 1) := by decide +kernel
theorem d7_79 : decode J18 79 = .ok (.iload_n 1, 1) := by decide +kernel
theorem d7_80 : decode J18 80 = .ok (.bipush 6, 2) := by decide +kernel
theorem d7_82 : decode J18 82 = .ok (.if_icmp .le 12, 3) := by decide +kernel
theorem d7_85 : decode J18 85 = .ok (.iload_n 2, 1) := by decide +kernel
theorem d7_86 : decode J18 86 = .ok (.aload_n 0, 1) := by decide +kernel
theorem d7_87 : decode J18 87 = .ok (.bipush 6, 2) := by decide +kernel
theorem d7_89 : decode J18 89 = .ok (.caload, 1) := by decide +kernel
theorem d7_90 : decode J18 90 = .ok (.invokestatic 49, 3) := by decide +kernel
theorem d7_93 : decode J18 93 = .ok (.istore_n 2, 1) := by decide +kernel
theorem d7_94 : decode J18 94 = .ok (.iload_n 1, 1) := by decide +kernel
theorem d7_95 : decode J18 95 = .ok (.bipush 7, 2) := by decide +kernel
theorem d7_97 : decode J18 97 = .ok (.if_icmp .le 12, 3) := by decide +kernel
theorem d7_100 : decode J18 100 = .ok (.iload_n 2, 1) := by decide +kernel
theorem d7_101 : decode J18 101 = .ok (.aload_n 0, 1) := by decide +kernel
theorem d7_102 : decode J18 102 = .ok (.bipush 7, 2) := by decide +kernel
theorem d7_104 : decode J18 104 = .ok (.caload, 1) := by decide +kernel
theorem d7_105 : decode J18 105 = .ok (.invokestatic 49, 3) := by decide +kernel
theorem d7_108 : decode J18 108 = .ok (.istore_n 2, 1) := by decide +kernel
theorem d7_109 : decode J18 109 = .ok (.iload_n 1, 1) := by decide +kernel
theorem d7_110 : decode J18 110 = .ok (.bipush 8, 2) := by decide +kernel
theorem d7_112 : decode J18 112 = .ok (.if_icmp .le 12, 3) := by decide +kernel
theorem d7_115 : decode J18 115 = .ok (.iload_n 2, 1) := by decide +kernel
theorem d7_116 : decode J18 116 = .ok (.aload_n 0, 1) := by decide +kernel
theorem d7_117 : decode J18 117 = .ok (.bipush 8, 2) := by decide +kernel
theorem d7_119 : decode J18 119 = .ok (.caload, 1) := by decide +kernel
theorem d7_120 : decode J18 120 = .ok (.invokestatic 49, 3) := by decide +kernel
theorem d7_123 : decode J18 123 = .ok (.istore_n 2, 1) := by decide +kernel
theorem d7_124 : decode J18 124 = .ok (.iload_n 1, 1) := by decide +kernel
theorem d7_125 : decode J18 125 = .ok (.bipush 9, 2) := by decide +kernel
theorem d7_127 : decode J18 127 = .ok (.if_icmp .le 12, 3) := by decide +kernel
theorem d7_130 : decode J18 130 = .ok (.iload_n 2, 1) := by decide +kernel
theorem d7_131 : decode J18 131 = .ok (.aload_n 0, 1) := by decide +kernel
theorem d7_132 : decode J18 132 = .ok (.bipush 9, 2) := by decide +kernel
theorem d7_134 : decode J18 134 = .ok (.caload, 1) := by decide +kernel
theorem d7_135 : decode J18 135 = .ok (.invokestatic 49, 3) := by decide +kernel
theorem d7_138 : decode J18 138 = .ok (.istore_n 2, 1) := by decide +kernel
theorem d7_139 : decode J18 139 = .ok (.iload_n 1, 1) := by decide +kernel
theorem d7_140 : decode J18 140 = .ok (.bipush 10, 2) := by decide +kernel
theorem d7_142 : decode J18 142 = .ok (.if_icmp .le 12, 3) := by decide +kernel
theorem d7_145 : decode J18 145 = .ok (.iload_n 2, 1) := by decide +kernel
theorem d7_146 : decode J18 146 = .ok (.aload_n 0, 1) := by decide +kernel
theorem d7_147 : decode J18 147 = .ok (.bipush 10, 2) := by decide +kernel
theorem d7_149 : decode J18 149 = .ok (.caload, 1) := by decide +kernel
theorem d7_150 : decode J18 150 = .ok (.invokestatic 49, 3) := by decide +kernel
theorem d7_153 : decode J18 153 = .ok (.istore_n 2, 1) := by decide +kernel
theorem d7_154 : decode J18 154 = .ok (.iload_n 1, 1) := by decide +kernel
theorem d7_155 : decode J18 155 = .ok (.bipush 11, 2) := by decide +kernel
theorem d7_157 : decode J18 157 = .ok (.if_icmp .le 12, 3) := by decide +kernel
theorem d7_160 : decode J18 160 = .ok (.iload_n 2, 1) := by decide +kernel
theorem d7_161 : decode J18 161 = .ok (.aload_n 0, 1) := by decide +kernel
theorem d7_162 : decode J18 162 = .ok (.bipush 11, 2) := by decide +kernel
theorem d7_164 : decode J18 164 = .ok (.caload, 1) := by decide +kernel
theorem d7_165 : decode J18 165 = .ok (.invokestatic 49, 3) := by decide +kernel
theorem d7_168 : decode J18 168 = .ok (.istore_n 2, 1) := by decide +kernel
theorem d7_169 : decode J18 169 = .ok (.iload_n 2, 1) := by decide +kernel
theorem d7_170 : decode J18 170 = .ok (.ireturn, 1) := by decide +kernel
theorem pd_4 : parseMethodDescriptor "(IC)I" = some ⟨[.int, .char], some .int⟩ := by decide +kernel
theorem ef_7 (m : MethodId) (o0 : Addr) (p1 : Int32) : entryFrame m #[(.ref o0), (.int p1)] 3 = mkF m 0 #[.val (.ref o0), .val (.int p1), .unset] [] := by first | (simp [entryFrame, mkF, argsToLocals, Value.category]; done) | rfl
set_option maxRecDepth 65536 in
set_option maxHeartbeats 40000000 in
theorem cRN (l : Launch) (Z : State) (a0 : Array Value) (hw : ∀ d ∈ tables_1, d.before a0 Z = true) (o0 : Addr) (p1 : Int32) (c0_ : Int32) (c1_ : Int32) (c2_ : Int32) (c3_ : Int32) (c4_ : Int32) (c5_ : Int32) (c6_ : Int32) (c7_ : Int32) (c8_ : Int32) (c9_ : Int32) (c10_ : Int32) (c11_ : Int32) (h0 : Heap) (A0 : Own.CA Z h0 o0 .char [c0_, c1_, c2_, c3_, c4_, c5_, c6_, c7_, c8_, c9_, c10_, c11_]) : Own.Con l Z (⟨"com/example/pliktflow/pliktflow/deposit/MediaTypeIsWellFormedPinLaw", "run", "([CI)I"⟩ : MethodName) method_6_code 3 (some .int) ({ frames := 4, cells := 0, slots := 0, locals := 49 } : Room) #[(.ref o0), (.int p1)] h0 (Own.Pure (.int (own_rn p1 [c0_, c1_, c2_, c3_, c4_, c5_, c6_, c7_, c8_, c9_, c10_, c11_] 12)) h0) := by
  intro ws
  refine MetFree.of_bodySF (plainFor_of_name pn_1) hisR ?_
  intro p e s m args below meth c s₁ Bd hml0 hP hK
  obtain ⟨rfl, hZ, hh⟩ := hP
  have hx := Bd.exec
  have hby := Bd.bytes
  have D := fun {n : Nat} {i} (d : decode method_6_code n = .ok i) => hb hby d
  have hml : c.maxLocals = 3 := hml0
  have hown : s.vm.findClass "com/example/pliktflow/pliktflow/deposit/MediaTypeIsWellFormedPinLaw" = some m.cls := findClass_of_methodNamed Bd.named
  have hnm := (name_of_methodNamed Bd.named Bd.method).1
  have X0 : Stand p l e ({ frames := 4, cells := 0, slots := 0, locals := 49 } : Room) s m #[(.ref o0), (.int p1)] below meth c s₁ [] 0 0 := Stand.of_body Bd
  have e0 : s₁.heap = h0 := by rw [← hh, Bd.state]; rfl
  have K0 : ∀ t, Steps p.tables e below (s₁.setTop (mkF m 0 #[vr o0, vi p1, .unset] [])) t → Steps p.tables e below (s₁.setTop (entryFrame m #[(.ref o0), (.int p1)] 3)) t := fun t k => castTop (ef_7 m o0 p1) k
  generalize s₁.setTop (entryFrame m #[(.ref o0), (.int p1)] 3) = B0 at K0 ⊢
  show Own.Fin p e below B0 s (({ frames := 4, cells := 0, slots := 0, locals := 49 } : Room)).cells (({ frames := 4, cells := 0, slots := 0, locals := 49 } : Room)).slots (Own.Pure (.int (own_rn p1 [c0_, c1_, c2_, c3_, c4_, c5_, c6_, c7_, c8_, c9_, c10_, c11_] 12)) h0)
  have K1 : Own.To p e below B0 s₁ (mkF m 3 #[vr o0, vi p1, vi 0] [(.int p1)]) := fun t k => K0 t (by
    refine Own.iconst X0 hx 0 (D d7_0) rfl ?_
    refine Own.istoreN X0 hx #[vr o0, vi p1, vi 0] (D d7_1) rfl ?_
    refine Own.iloadN X0 hx (D d7_2) rfl ?_
    exact k)
  obtain ⟨x9, hx9⟩ : ∃ z : Int32, z = (if (0 : Int32) < p1 then (F16 (0 : Int32) c0_) else (0 : Int32)) := ⟨_, rfl⟩
  obtain ⟨T10, X10, e10, K10⟩ : ∃ T' : State, Stand p l e ({ frames := 4, cells := 0, slots := 0, locals := 49 } : Room) s m #[(.ref o0), (.int p1)] below meth c T' [] 0 0 ∧ T'.heap = h0 ∧ Own.To p e below B0 T' (mkF m 14 #[vr o0, vi p1, vi x9] []) := by
    by_cases hc2 : (0 : Int32) < p1
    · have K3 : Own.To p e below B0 s₁ (mkF m 9 #[vr o0, vi p1, vi 0] [(.int 0), (.ref o0), (.int 0)]) := fun t k => K1 t (by
        refine Own.ifNo X0 hx (D d7_3) ((if0 _ _).trans (tlt hc2).2.2.2) ?_
        refine Own.iloadN X0 hx (D d7_6) rfl ?_
        refine Own.aloadN X0 hx (D d7_7) rfl rfl ?_
        refine Own.iconst X0 hx 0 (D d7_8) rfl ?_
        exact k)
      have K4 : Own.To p e below B0 s₁ (mkF m 10 #[vr o0, vi p1, vi 0] [(.int c0_), (.int 0)]) := fun t k => K3 t (by
        refine Own.cal X0 hx hZ e0 A0 c0_ (by decide) (show (0 : Int32).toNatClampNeg < 12 by decide) rfl (D d7_9) ?_
        exact k)
      obtain ⟨T5, X5, e5, st5⟩ := Own.callP (Ls := #[vr o0, vi p1, vi 0]) X0 hx hZ e0 [(.int 0), (.int c0_)] [] (c16 l Z a0 hw (0 : Int32) c0_  h0 ) hown (W_ hw 71 rfl) (W_ hw 72 rfl) (W_ hw 4 rfl) (W_ hw 73 rfl) (by decide) 0 rfl rfl (by decide) (by decide) (by decide) (by decide) (szOf hml rfl) (lenOf pd_4 rfl) rfl (Nat.le_of_eq rfl) (D d7_10)
      have K6 := fun t k => K4 t (st5 t k)
      have K7 : Own.To p e below B0 T5 (mkF m 14 #[vr o0, vi p1, vi (F16 (0 : Int32) c0_)] []) := fun t k => K6 t (by
        refine Own.istoreN X5 hx #[vr o0, vi p1, vi (F16 (0 : Int32) c0_)] (D d7_13) rfl ?_
        exact k)
      exact ⟨T5, X5, e5, fun t k => K7 t (by rw [hx9, if_pos hc2] at k; exact k)⟩
    · have K8 : Own.To p e below B0 s₁ (mkF m 14 #[vr o0, vi p1, vi 0] []) := fun t k => K1 t (by
        refine Own.ifYes X0 hx 14 (D d7_3) ((if0 _ _).trans (flt hc2).2.2.2) (by decide) (by decide) ?_
        exact k)
      exact ⟨s₁, X0, e0, fun t k => K8 t (by rw [hx9, if_neg hc2] at k; exact k)⟩
  have e11 : x9 = own_rn p1 [c0_, c1_, c2_, c3_, c4_, c5_, c6_, c7_, c8_, c9_, c10_, c11_] 1 := by rw [hx9]; rfl
  rw [e11] at K10
  have K12 : Own.To p e below B0 T10 (mkF m 16 #[vr o0, vi p1, vi (own_rn p1 [c0_, c1_, c2_, c3_, c4_, c5_, c6_, c7_, c8_, c9_, c10_, c11_] 1)] [(.int 1), (.int p1)]) := fun t k => K10 t (by
    refine Own.iloadN X10 hx (D d7_14) rfl ?_
    refine Own.iconst X10 hx 1 (D d7_15) rfl ?_
    exact k)
  obtain ⟨x20, hx20⟩ : ∃ z : Int32, z = (if (1 : Int32) < p1 then (F16 (own_rn p1 [c0_, c1_, c2_, c3_, c4_, c5_, c6_, c7_, c8_, c9_, c10_, c11_] 1) c1_) else (own_rn p1 [c0_, c1_, c2_, c3_, c4_, c5_, c6_, c7_, c8_, c9_, c10_, c11_] 1)) := ⟨_, rfl⟩
  obtain ⟨T21, X21, e21, K21⟩ : ∃ T' : State, Stand p l e ({ frames := 4, cells := 0, slots := 0, locals := 49 } : Room) s m #[(.ref o0), (.int p1)] below meth c T' [] 0 0 ∧ T'.heap = h0 ∧ Own.To p e below B0 T' (mkF m 27 #[vr o0, vi p1, vi x20] []) := by
    by_cases hc13 : (1 : Int32) < p1
    · have K14 : Own.To p e below B0 T10 (mkF m 22 #[vr o0, vi p1, vi (own_rn p1 [c0_, c1_, c2_, c3_, c4_, c5_, c6_, c7_, c8_, c9_, c10_, c11_] 1)] [(.int 1), (.ref o0), (.int (own_rn p1 [c0_, c1_, c2_, c3_, c4_, c5_, c6_, c7_, c8_, c9_, c10_, c11_] 1))]) := fun t k => K12 t (by
        refine Own.icmpNo X10 hx (D d7_16) (tlt hc13).2.2.2 ?_
        refine Own.iloadN X10 hx (D d7_19) rfl ?_
        refine Own.aloadN X10 hx (D d7_20) rfl rfl ?_
        refine Own.iconst X10 hx 1 (D d7_21) rfl ?_
        exact k)
      have K15 : Own.To p e below B0 T10 (mkF m 23 #[vr o0, vi p1, vi (own_rn p1 [c0_, c1_, c2_, c3_, c4_, c5_, c6_, c7_, c8_, c9_, c10_, c11_] 1)] [(.int c1_), (.int (own_rn p1 [c0_, c1_, c2_, c3_, c4_, c5_, c6_, c7_, c8_, c9_, c10_, c11_] 1))]) := fun t k => K14 t (by
        refine Own.cal X10 hx hZ e10 A0 c1_ (by decide) (show (1 : Int32).toNatClampNeg < 12 by decide) rfl (D d7_22) ?_
        exact k)
      obtain ⟨T16, X16, e16, st16⟩ := Own.callP (Ls := #[vr o0, vi p1, vi (own_rn p1 [c0_, c1_, c2_, c3_, c4_, c5_, c6_, c7_, c8_, c9_, c10_, c11_] 1)]) X10 hx hZ e10 [(.int (own_rn p1 [c0_, c1_, c2_, c3_, c4_, c5_, c6_, c7_, c8_, c9_, c10_, c11_] 1)), (.int c1_)] [] (c16 l Z a0 hw (own_rn p1 [c0_, c1_, c2_, c3_, c4_, c5_, c6_, c7_, c8_, c9_, c10_, c11_] 1) c1_  h0 ) hown (W_ hw 71 rfl) (W_ hw 72 rfl) (W_ hw 4 rfl) (W_ hw 73 rfl) (by decide) 0 rfl rfl (by decide) (by decide) (by decide) (by decide) (szOf hml rfl) (lenOf pd_4 rfl) rfl (Nat.le_of_eq rfl) (D d7_23)
      have K17 := fun t k => K15 t (st16 t k)
      have K18 : Own.To p e below B0 T16 (mkF m 27 #[vr o0, vi p1, vi (F16 (own_rn p1 [c0_, c1_, c2_, c3_, c4_, c5_, c6_, c7_, c8_, c9_, c10_, c11_] 1) c1_)] []) := fun t k => K17 t (by
        refine Own.istoreN X16 hx #[vr o0, vi p1, vi (F16 (own_rn p1 [c0_, c1_, c2_, c3_, c4_, c5_, c6_, c7_, c8_, c9_, c10_, c11_] 1) c1_)] (D d7_26) rfl ?_
        exact k)
      exact ⟨T16, X16, e16, fun t k => K18 t (by rw [hx20, if_pos hc13] at k; exact k)⟩
    · have K19 : Own.To p e below B0 T10 (mkF m 27 #[vr o0, vi p1, vi (own_rn p1 [c0_, c1_, c2_, c3_, c4_, c5_, c6_, c7_, c8_, c9_, c10_, c11_] 1)] []) := fun t k => K12 t (by
        refine Own.icmpYes X10 hx 27 (D d7_16) (flt hc13).2.2.2 (by decide) (by decide) ?_
        exact k)
      exact ⟨T10, X10, e10, fun t k => K19 t (by rw [hx20, if_neg hc13] at k; exact k)⟩
  have e22 : x20 = own_rn p1 [c0_, c1_, c2_, c3_, c4_, c5_, c6_, c7_, c8_, c9_, c10_, c11_] 2 := by rw [hx20]; rfl
  rw [e22] at K21
  have K23 : Own.To p e below B0 T21 (mkF m 29 #[vr o0, vi p1, vi (own_rn p1 [c0_, c1_, c2_, c3_, c4_, c5_, c6_, c7_, c8_, c9_, c10_, c11_] 2)] [(.int 2), (.int p1)]) := fun t k => K21 t (by
    refine Own.iloadN X21 hx (D d7_27) rfl ?_
    refine Own.iconst X21 hx 2 (D d7_28) rfl ?_
    exact k)
  obtain ⟨x31, hx31⟩ : ∃ z : Int32, z = (if (2 : Int32) < p1 then (F16 (own_rn p1 [c0_, c1_, c2_, c3_, c4_, c5_, c6_, c7_, c8_, c9_, c10_, c11_] 2) c2_) else (own_rn p1 [c0_, c1_, c2_, c3_, c4_, c5_, c6_, c7_, c8_, c9_, c10_, c11_] 2)) := ⟨_, rfl⟩
  obtain ⟨T32, X32, e32, K32⟩ : ∃ T' : State, Stand p l e ({ frames := 4, cells := 0, slots := 0, locals := 49 } : Room) s m #[(.ref o0), (.int p1)] below meth c T' [] 0 0 ∧ T'.heap = h0 ∧ Own.To p e below B0 T' (mkF m 40 #[vr o0, vi p1, vi x31] []) := by
    by_cases hc24 : (2 : Int32) < p1
    · have K25 : Own.To p e below B0 T21 (mkF m 35 #[vr o0, vi p1, vi (own_rn p1 [c0_, c1_, c2_, c3_, c4_, c5_, c6_, c7_, c8_, c9_, c10_, c11_] 2)] [(.int 2), (.ref o0), (.int (own_rn p1 [c0_, c1_, c2_, c3_, c4_, c5_, c6_, c7_, c8_, c9_, c10_, c11_] 2))]) := fun t k => K23 t (by
        refine Own.icmpNo X21 hx (D d7_29) (tlt hc24).2.2.2 ?_
        refine Own.iloadN X21 hx (D d7_32) rfl ?_
        refine Own.aloadN X21 hx (D d7_33) rfl rfl ?_
        refine Own.iconst X21 hx 2 (D d7_34) rfl ?_
        exact k)
      have K26 : Own.To p e below B0 T21 (mkF m 36 #[vr o0, vi p1, vi (own_rn p1 [c0_, c1_, c2_, c3_, c4_, c5_, c6_, c7_, c8_, c9_, c10_, c11_] 2)] [(.int c2_), (.int (own_rn p1 [c0_, c1_, c2_, c3_, c4_, c5_, c6_, c7_, c8_, c9_, c10_, c11_] 2))]) := fun t k => K25 t (by
        refine Own.cal X21 hx hZ e21 A0 c2_ (by decide) (show (2 : Int32).toNatClampNeg < 12 by decide) rfl (D d7_35) ?_
        exact k)
      obtain ⟨T27, X27, e27, st27⟩ := Own.callP (Ls := #[vr o0, vi p1, vi (own_rn p1 [c0_, c1_, c2_, c3_, c4_, c5_, c6_, c7_, c8_, c9_, c10_, c11_] 2)]) X21 hx hZ e21 [(.int (own_rn p1 [c0_, c1_, c2_, c3_, c4_, c5_, c6_, c7_, c8_, c9_, c10_, c11_] 2)), (.int c2_)] [] (c16 l Z a0 hw (own_rn p1 [c0_, c1_, c2_, c3_, c4_, c5_, c6_, c7_, c8_, c9_, c10_, c11_] 2) c2_  h0 ) hown (W_ hw 71 rfl) (W_ hw 72 rfl) (W_ hw 4 rfl) (W_ hw 73 rfl) (by decide) 0 rfl rfl (by decide) (by decide) (by decide) (by decide) (szOf hml rfl) (lenOf pd_4 rfl) rfl (Nat.le_of_eq rfl) (D d7_36)
      have K28 := fun t k => K26 t (st27 t k)
      have K29 : Own.To p e below B0 T27 (mkF m 40 #[vr o0, vi p1, vi (F16 (own_rn p1 [c0_, c1_, c2_, c3_, c4_, c5_, c6_, c7_, c8_, c9_, c10_, c11_] 2) c2_)] []) := fun t k => K28 t (by
        refine Own.istoreN X27 hx #[vr o0, vi p1, vi (F16 (own_rn p1 [c0_, c1_, c2_, c3_, c4_, c5_, c6_, c7_, c8_, c9_, c10_, c11_] 2) c2_)] (D d7_39) rfl ?_
        exact k)
      exact ⟨T27, X27, e27, fun t k => K29 t (by rw [hx31, if_pos hc24] at k; exact k)⟩
    · have K30 : Own.To p e below B0 T21 (mkF m 40 #[vr o0, vi p1, vi (own_rn p1 [c0_, c1_, c2_, c3_, c4_, c5_, c6_, c7_, c8_, c9_, c10_, c11_] 2)] []) := fun t k => K23 t (by
        refine Own.icmpYes X21 hx 40 (D d7_29) (flt hc24).2.2.2 (by decide) (by decide) ?_
        exact k)
      exact ⟨T21, X21, e21, fun t k => K30 t (by rw [hx31, if_neg hc24] at k; exact k)⟩
  have e33 : x31 = own_rn p1 [c0_, c1_, c2_, c3_, c4_, c5_, c6_, c7_, c8_, c9_, c10_, c11_] 3 := by rw [hx31]; rfl
  rw [e33] at K32
  have K34 : Own.To p e below B0 T32 (mkF m 42 #[vr o0, vi p1, vi (own_rn p1 [c0_, c1_, c2_, c3_, c4_, c5_, c6_, c7_, c8_, c9_, c10_, c11_] 3)] [(.int 3), (.int p1)]) := fun t k => K32 t (by
    refine Own.iloadN X32 hx (D d7_40) rfl ?_
    refine Own.iconst X32 hx 3 (D d7_41) rfl ?_
    exact k)
  obtain ⟨x42, hx42⟩ : ∃ z : Int32, z = (if (3 : Int32) < p1 then (F16 (own_rn p1 [c0_, c1_, c2_, c3_, c4_, c5_, c6_, c7_, c8_, c9_, c10_, c11_] 3) c3_) else (own_rn p1 [c0_, c1_, c2_, c3_, c4_, c5_, c6_, c7_, c8_, c9_, c10_, c11_] 3)) := ⟨_, rfl⟩
  obtain ⟨T43, X43, e43, K43⟩ : ∃ T' : State, Stand p l e ({ frames := 4, cells := 0, slots := 0, locals := 49 } : Room) s m #[(.ref o0), (.int p1)] below meth c T' [] 0 0 ∧ T'.heap = h0 ∧ Own.To p e below B0 T' (mkF m 53 #[vr o0, vi p1, vi x42] []) := by
    by_cases hc35 : (3 : Int32) < p1
    · have K36 : Own.To p e below B0 T32 (mkF m 48 #[vr o0, vi p1, vi (own_rn p1 [c0_, c1_, c2_, c3_, c4_, c5_, c6_, c7_, c8_, c9_, c10_, c11_] 3)] [(.int 3), (.ref o0), (.int (own_rn p1 [c0_, c1_, c2_, c3_, c4_, c5_, c6_, c7_, c8_, c9_, c10_, c11_] 3))]) := fun t k => K34 t (by
        refine Own.icmpNo X32 hx (D d7_42) (tlt hc35).2.2.2 ?_
        refine Own.iloadN X32 hx (D d7_45) rfl ?_
        refine Own.aloadN X32 hx (D d7_46) rfl rfl ?_
        refine Own.iconst X32 hx 3 (D d7_47) rfl ?_
        exact k)
      have K37 : Own.To p e below B0 T32 (mkF m 49 #[vr o0, vi p1, vi (own_rn p1 [c0_, c1_, c2_, c3_, c4_, c5_, c6_, c7_, c8_, c9_, c10_, c11_] 3)] [(.int c3_), (.int (own_rn p1 [c0_, c1_, c2_, c3_, c4_, c5_, c6_, c7_, c8_, c9_, c10_, c11_] 3))]) := fun t k => K36 t (by
        refine Own.cal X32 hx hZ e32 A0 c3_ (by decide) (show (3 : Int32).toNatClampNeg < 12 by decide) rfl (D d7_48) ?_
        exact k)
      obtain ⟨T38, X38, e38, st38⟩ := Own.callP (Ls := #[vr o0, vi p1, vi (own_rn p1 [c0_, c1_, c2_, c3_, c4_, c5_, c6_, c7_, c8_, c9_, c10_, c11_] 3)]) X32 hx hZ e32 [(.int (own_rn p1 [c0_, c1_, c2_, c3_, c4_, c5_, c6_, c7_, c8_, c9_, c10_, c11_] 3)), (.int c3_)] [] (c16 l Z a0 hw (own_rn p1 [c0_, c1_, c2_, c3_, c4_, c5_, c6_, c7_, c8_, c9_, c10_, c11_] 3) c3_  h0 ) hown (W_ hw 71 rfl) (W_ hw 72 rfl) (W_ hw 4 rfl) (W_ hw 73 rfl) (by decide) 0 rfl rfl (by decide) (by decide) (by decide) (by decide) (szOf hml rfl) (lenOf pd_4 rfl) rfl (Nat.le_of_eq rfl) (D d7_49)
      have K39 := fun t k => K37 t (st38 t k)
      have K40 : Own.To p e below B0 T38 (mkF m 53 #[vr o0, vi p1, vi (F16 (own_rn p1 [c0_, c1_, c2_, c3_, c4_, c5_, c6_, c7_, c8_, c9_, c10_, c11_] 3) c3_)] []) := fun t k => K39 t (by
        refine Own.istoreN X38 hx #[vr o0, vi p1, vi (F16 (own_rn p1 [c0_, c1_, c2_, c3_, c4_, c5_, c6_, c7_, c8_, c9_, c10_, c11_] 3) c3_)] (D d7_52) rfl ?_
        exact k)
      exact ⟨T38, X38, e38, fun t k => K40 t (by rw [hx42, if_pos hc35] at k; exact k)⟩
    · have K41 : Own.To p e below B0 T32 (mkF m 53 #[vr o0, vi p1, vi (own_rn p1 [c0_, c1_, c2_, c3_, c4_, c5_, c6_, c7_, c8_, c9_, c10_, c11_] 3)] []) := fun t k => K34 t (by
        refine Own.icmpYes X32 hx 53 (D d7_42) (flt hc35).2.2.2 (by decide) (by decide) ?_
        exact k)
      exact ⟨T32, X32, e32, fun t k => K41 t (by rw [hx42, if_neg hc35] at k; exact k)⟩
  have e44 : x42 = own_rn p1 [c0_, c1_, c2_, c3_, c4_, c5_, c6_, c7_, c8_, c9_, c10_, c11_] 4 := by rw [hx42]; rfl
  rw [e44] at K43
  have K45 : Own.To p e below B0 T43 (mkF m 55 #[vr o0, vi p1, vi (own_rn p1 [c0_, c1_, c2_, c3_, c4_, c5_, c6_, c7_, c8_, c9_, c10_, c11_] 4)] [(.int 4), (.int p1)]) := fun t k => K43 t (by
    refine Own.iloadN X43 hx (D d7_53) rfl ?_
    refine Own.iconst X43 hx 4 (D d7_54) rfl ?_
    exact k)
  obtain ⟨x53, hx53⟩ : ∃ z : Int32, z = (if (4 : Int32) < p1 then (F16 (own_rn p1 [c0_, c1_, c2_, c3_, c4_, c5_, c6_, c7_, c8_, c9_, c10_, c11_] 4) c4_) else (own_rn p1 [c0_, c1_, c2_, c3_, c4_, c5_, c6_, c7_, c8_, c9_, c10_, c11_] 4)) := ⟨_, rfl⟩
  obtain ⟨T54, X54, e54, K54⟩ : ∃ T' : State, Stand p l e ({ frames := 4, cells := 0, slots := 0, locals := 49 } : Room) s m #[(.ref o0), (.int p1)] below meth c T' [] 0 0 ∧ T'.heap = h0 ∧ Own.To p e below B0 T' (mkF m 66 #[vr o0, vi p1, vi x53] []) := by
    by_cases hc46 : (4 : Int32) < p1
    · have K47 : Own.To p e below B0 T43 (mkF m 61 #[vr o0, vi p1, vi (own_rn p1 [c0_, c1_, c2_, c3_, c4_, c5_, c6_, c7_, c8_, c9_, c10_, c11_] 4)] [(.int 4), (.ref o0), (.int (own_rn p1 [c0_, c1_, c2_, c3_, c4_, c5_, c6_, c7_, c8_, c9_, c10_, c11_] 4))]) := fun t k => K45 t (by
        refine Own.icmpNo X43 hx (D d7_55) (tlt hc46).2.2.2 ?_
        refine Own.iloadN X43 hx (D d7_58) rfl ?_
        refine Own.aloadN X43 hx (D d7_59) rfl rfl ?_
        refine Own.iconst X43 hx 4 (D d7_60) rfl ?_
        exact k)
      have K48 : Own.To p e below B0 T43 (mkF m 62 #[vr o0, vi p1, vi (own_rn p1 [c0_, c1_, c2_, c3_, c4_, c5_, c6_, c7_, c8_, c9_, c10_, c11_] 4)] [(.int c4_), (.int (own_rn p1 [c0_, c1_, c2_, c3_, c4_, c5_, c6_, c7_, c8_, c9_, c10_, c11_] 4))]) := fun t k => K47 t (by
        refine Own.cal X43 hx hZ e43 A0 c4_ (by decide) (show (4 : Int32).toNatClampNeg < 12 by decide) rfl (D d7_61) ?_
        exact k)
      obtain ⟨T49, X49, e49, st49⟩ := Own.callP (Ls := #[vr o0, vi p1, vi (own_rn p1 [c0_, c1_, c2_, c3_, c4_, c5_, c6_, c7_, c8_, c9_, c10_, c11_] 4)]) X43 hx hZ e43 [(.int (own_rn p1 [c0_, c1_, c2_, c3_, c4_, c5_, c6_, c7_, c8_, c9_, c10_, c11_] 4)), (.int c4_)] [] (c16 l Z a0 hw (own_rn p1 [c0_, c1_, c2_, c3_, c4_, c5_, c6_, c7_, c8_, c9_, c10_, c11_] 4) c4_  h0 ) hown (W_ hw 71 rfl) (W_ hw 72 rfl) (W_ hw 4 rfl) (W_ hw 73 rfl) (by decide) 0 rfl rfl (by decide) (by decide) (by decide) (by decide) (szOf hml rfl) (lenOf pd_4 rfl) rfl (Nat.le_of_eq rfl) (D d7_62)
      have K50 := fun t k => K48 t (st49 t k)
      have K51 : Own.To p e below B0 T49 (mkF m 66 #[vr o0, vi p1, vi (F16 (own_rn p1 [c0_, c1_, c2_, c3_, c4_, c5_, c6_, c7_, c8_, c9_, c10_, c11_] 4) c4_)] []) := fun t k => K50 t (by
        refine Own.istoreN X49 hx #[vr o0, vi p1, vi (F16 (own_rn p1 [c0_, c1_, c2_, c3_, c4_, c5_, c6_, c7_, c8_, c9_, c10_, c11_] 4) c4_)] (D d7_65) rfl ?_
        exact k)
      exact ⟨T49, X49, e49, fun t k => K51 t (by rw [hx53, if_pos hc46] at k; exact k)⟩
    · have K52 : Own.To p e below B0 T43 (mkF m 66 #[vr o0, vi p1, vi (own_rn p1 [c0_, c1_, c2_, c3_, c4_, c5_, c6_, c7_, c8_, c9_, c10_, c11_] 4)] []) := fun t k => K45 t (by
        refine Own.icmpYes X43 hx 66 (D d7_55) (flt hc46).2.2.2 (by decide) (by decide) ?_
        exact k)
      exact ⟨T43, X43, e43, fun t k => K52 t (by rw [hx53, if_neg hc46] at k; exact k)⟩
  have e55 : x53 = own_rn p1 [c0_, c1_, c2_, c3_, c4_, c5_, c6_, c7_, c8_, c9_, c10_, c11_] 5 := by rw [hx53]; rfl
  rw [e55] at K54
  have K56 : Own.To p e below B0 T54 (mkF m 68 #[vr o0, vi p1, vi (own_rn p1 [c0_, c1_, c2_, c3_, c4_, c5_, c6_, c7_, c8_, c9_, c10_, c11_] 5)] [(.int 5), (.int p1)]) := fun t k => K54 t (by
    refine Own.iloadN X54 hx (D d7_66) rfl ?_
    refine Own.iconst X54 hx 5 (D d7_67) rfl ?_
    exact k)
  obtain ⟨x64, hx64⟩ : ∃ z : Int32, z = (if (5 : Int32) < p1 then (F16 (own_rn p1 [c0_, c1_, c2_, c3_, c4_, c5_, c6_, c7_, c8_, c9_, c10_, c11_] 5) c5_) else (own_rn p1 [c0_, c1_, c2_, c3_, c4_, c5_, c6_, c7_, c8_, c9_, c10_, c11_] 5)) := ⟨_, rfl⟩
  obtain ⟨T65, X65, e65, K65⟩ : ∃ T' : State, Stand p l e ({ frames := 4, cells := 0, slots := 0, locals := 49 } : Room) s m #[(.ref o0), (.int p1)] below meth c T' [] 0 0 ∧ T'.heap = h0 ∧ Own.To p e below B0 T' (mkF m 79 #[vr o0, vi p1, vi x64] []) := by
    by_cases hc57 : (5 : Int32) < p1
    · have K58 : Own.To p e below B0 T54 (mkF m 74 #[vr o0, vi p1, vi (own_rn p1 [c0_, c1_, c2_, c3_, c4_, c5_, c6_, c7_, c8_, c9_, c10_, c11_] 5)] [(.int 5), (.ref o0), (.int (own_rn p1 [c0_, c1_, c2_, c3_, c4_, c5_, c6_, c7_, c8_, c9_, c10_, c11_] 5))]) := fun t k => K56 t (by
        refine Own.icmpNo X54 hx (D d7_68) (tlt hc57).2.2.2 ?_
        refine Own.iloadN X54 hx (D d7_71) rfl ?_
        refine Own.aloadN X54 hx (D d7_72) rfl rfl ?_
        refine Own.iconst X54 hx 5 (D d7_73) rfl ?_
        exact k)
      have K59 : Own.To p e below B0 T54 (mkF m 75 #[vr o0, vi p1, vi (own_rn p1 [c0_, c1_, c2_, c3_, c4_, c5_, c6_, c7_, c8_, c9_, c10_, c11_] 5)] [(.int c5_), (.int (own_rn p1 [c0_, c1_, c2_, c3_, c4_, c5_, c6_, c7_, c8_, c9_, c10_, c11_] 5))]) := fun t k => K58 t (by
        refine Own.cal X54 hx hZ e54 A0 c5_ (by decide) (show (5 : Int32).toNatClampNeg < 12 by decide) rfl (D d7_74) ?_
        exact k)
      obtain ⟨T60, X60, e60, st60⟩ := Own.callP (Ls := #[vr o0, vi p1, vi (own_rn p1 [c0_, c1_, c2_, c3_, c4_, c5_, c6_, c7_, c8_, c9_, c10_, c11_] 5)]) X54 hx hZ e54 [(.int (own_rn p1 [c0_, c1_, c2_, c3_, c4_, c5_, c6_, c7_, c8_, c9_, c10_, c11_] 5)), (.int c5_)] [] (c16 l Z a0 hw (own_rn p1 [c0_, c1_, c2_, c3_, c4_, c5_, c6_, c7_, c8_, c9_, c10_, c11_] 5) c5_  h0 ) hown (W_ hw 71 rfl) (W_ hw 72 rfl) (W_ hw 4 rfl) (W_ hw 73 rfl) (by decide) 0 rfl rfl (by decide) (by decide) (by decide) (by decide) (szOf hml rfl) (lenOf pd_4 rfl) rfl (Nat.le_of_eq rfl) (D d7_75)
      have K61 := fun t k => K59 t (st60 t k)
      have K62 : Own.To p e below B0 T60 (mkF m 79 #[vr o0, vi p1, vi (F16 (own_rn p1 [c0_, c1_, c2_, c3_, c4_, c5_, c6_, c7_, c8_, c9_, c10_, c11_] 5) c5_)] []) := fun t k => K61 t (by
        refine Own.istoreN X60 hx #[vr o0, vi p1, vi (F16 (own_rn p1 [c0_, c1_, c2_, c3_, c4_, c5_, c6_, c7_, c8_, c9_, c10_, c11_] 5) c5_)] (D d7_78) rfl ?_
        exact k)
      exact ⟨T60, X60, e60, fun t k => K62 t (by rw [hx64, if_pos hc57] at k; exact k)⟩
    · have K63 : Own.To p e below B0 T54 (mkF m 79 #[vr o0, vi p1, vi (own_rn p1 [c0_, c1_, c2_, c3_, c4_, c5_, c6_, c7_, c8_, c9_, c10_, c11_] 5)] []) := fun t k => K56 t (by
        refine Own.icmpYes X54 hx 79 (D d7_68) (flt hc57).2.2.2 (by decide) (by decide) ?_
        exact k)
      exact ⟨T54, X54, e54, fun t k => K63 t (by rw [hx64, if_neg hc57] at k; exact k)⟩
  have e66 : x64 = own_rn p1 [c0_, c1_, c2_, c3_, c4_, c5_, c6_, c7_, c8_, c9_, c10_, c11_] 6 := by rw [hx64]; rfl
  rw [e66] at K65
  have K67 : Own.To p e below B0 T65 (mkF m 82 #[vr o0, vi p1, vi (own_rn p1 [c0_, c1_, c2_, c3_, c4_, c5_, c6_, c7_, c8_, c9_, c10_, c11_] 6)] [(.int 6), (.int p1)]) := fun t k => K65 t (by
    refine Own.iloadN X65 hx (D d7_79) rfl ?_
    refine Own.bipush X65 hx 6 (D d7_80) rfl ?_
    exact k)
  obtain ⟨x75, hx75⟩ : ∃ z : Int32, z = (if (6 : Int32) < p1 then (F16 (own_rn p1 [c0_, c1_, c2_, c3_, c4_, c5_, c6_, c7_, c8_, c9_, c10_, c11_] 6) c6_) else (own_rn p1 [c0_, c1_, c2_, c3_, c4_, c5_, c6_, c7_, c8_, c9_, c10_, c11_] 6)) := ⟨_, rfl⟩
  obtain ⟨T76, X76, e76, K76⟩ : ∃ T' : State, Stand p l e ({ frames := 4, cells := 0, slots := 0, locals := 49 } : Room) s m #[(.ref o0), (.int p1)] below meth c T' [] 0 0 ∧ T'.heap = h0 ∧ Own.To p e below B0 T' (mkF m 94 #[vr o0, vi p1, vi x75] []) := by
    by_cases hc68 : (6 : Int32) < p1
    · have K69 : Own.To p e below B0 T65 (mkF m 89 #[vr o0, vi p1, vi (own_rn p1 [c0_, c1_, c2_, c3_, c4_, c5_, c6_, c7_, c8_, c9_, c10_, c11_] 6)] [(.int 6), (.ref o0), (.int (own_rn p1 [c0_, c1_, c2_, c3_, c4_, c5_, c6_, c7_, c8_, c9_, c10_, c11_] 6))]) := fun t k => K67 t (by
        refine Own.icmpNo X65 hx (D d7_82) (tlt hc68).2.2.2 ?_
        refine Own.iloadN X65 hx (D d7_85) rfl ?_
        refine Own.aloadN X65 hx (D d7_86) rfl rfl ?_
        refine Own.bipush X65 hx 6 (D d7_87) rfl ?_
        exact k)
      have K70 : Own.To p e below B0 T65 (mkF m 90 #[vr o0, vi p1, vi (own_rn p1 [c0_, c1_, c2_, c3_, c4_, c5_, c6_, c7_, c8_, c9_, c10_, c11_] 6)] [(.int c6_), (.int (own_rn p1 [c0_, c1_, c2_, c3_, c4_, c5_, c6_, c7_, c8_, c9_, c10_, c11_] 6))]) := fun t k => K69 t (by
        refine Own.cal X65 hx hZ e65 A0 c6_ (by decide) (show (6 : Int32).toNatClampNeg < 12 by decide) rfl (D d7_89) ?_
        exact k)
      obtain ⟨T71, X71, e71, st71⟩ := Own.callP (Ls := #[vr o0, vi p1, vi (own_rn p1 [c0_, c1_, c2_, c3_, c4_, c5_, c6_, c7_, c8_, c9_, c10_, c11_] 6)]) X65 hx hZ e65 [(.int (own_rn p1 [c0_, c1_, c2_, c3_, c4_, c5_, c6_, c7_, c8_, c9_, c10_, c11_] 6)), (.int c6_)] [] (c16 l Z a0 hw (own_rn p1 [c0_, c1_, c2_, c3_, c4_, c5_, c6_, c7_, c8_, c9_, c10_, c11_] 6) c6_  h0 ) hown (W_ hw 71 rfl) (W_ hw 72 rfl) (W_ hw 4 rfl) (W_ hw 73 rfl) (by decide) 0 rfl rfl (by decide) (by decide) (by decide) (by decide) (szOf hml rfl) (lenOf pd_4 rfl) rfl (Nat.le_of_eq rfl) (D d7_90)
      have K72 := fun t k => K70 t (st71 t k)
      have K73 : Own.To p e below B0 T71 (mkF m 94 #[vr o0, vi p1, vi (F16 (own_rn p1 [c0_, c1_, c2_, c3_, c4_, c5_, c6_, c7_, c8_, c9_, c10_, c11_] 6) c6_)] []) := fun t k => K72 t (by
        refine Own.istoreN X71 hx #[vr o0, vi p1, vi (F16 (own_rn p1 [c0_, c1_, c2_, c3_, c4_, c5_, c6_, c7_, c8_, c9_, c10_, c11_] 6) c6_)] (D d7_93) rfl ?_
        exact k)
      exact ⟨T71, X71, e71, fun t k => K73 t (by rw [hx75, if_pos hc68] at k; exact k)⟩
    · have K74 : Own.To p e below B0 T65 (mkF m 94 #[vr o0, vi p1, vi (own_rn p1 [c0_, c1_, c2_, c3_, c4_, c5_, c6_, c7_, c8_, c9_, c10_, c11_] 6)] []) := fun t k => K67 t (by
        refine Own.icmpYes X65 hx 94 (D d7_82) (flt hc68).2.2.2 (by decide) (by decide) ?_
        exact k)
      exact ⟨T65, X65, e65, fun t k => K74 t (by rw [hx75, if_neg hc68] at k; exact k)⟩
  have e77 : x75 = own_rn p1 [c0_, c1_, c2_, c3_, c4_, c5_, c6_, c7_, c8_, c9_, c10_, c11_] 7 := by rw [hx75]; rfl
  rw [e77] at K76
  have K78 : Own.To p e below B0 T76 (mkF m 97 #[vr o0, vi p1, vi (own_rn p1 [c0_, c1_, c2_, c3_, c4_, c5_, c6_, c7_, c8_, c9_, c10_, c11_] 7)] [(.int 7), (.int p1)]) := fun t k => K76 t (by
    refine Own.iloadN X76 hx (D d7_94) rfl ?_
    refine Own.bipush X76 hx 7 (D d7_95) rfl ?_
    exact k)
  obtain ⟨x86, hx86⟩ : ∃ z : Int32, z = (if (7 : Int32) < p1 then (F16 (own_rn p1 [c0_, c1_, c2_, c3_, c4_, c5_, c6_, c7_, c8_, c9_, c10_, c11_] 7) c7_) else (own_rn p1 [c0_, c1_, c2_, c3_, c4_, c5_, c6_, c7_, c8_, c9_, c10_, c11_] 7)) := ⟨_, rfl⟩
  obtain ⟨T87, X87, e87, K87⟩ : ∃ T' : State, Stand p l e ({ frames := 4, cells := 0, slots := 0, locals := 49 } : Room) s m #[(.ref o0), (.int p1)] below meth c T' [] 0 0 ∧ T'.heap = h0 ∧ Own.To p e below B0 T' (mkF m 109 #[vr o0, vi p1, vi x86] []) := by
    by_cases hc79 : (7 : Int32) < p1
    · have K80 : Own.To p e below B0 T76 (mkF m 104 #[vr o0, vi p1, vi (own_rn p1 [c0_, c1_, c2_, c3_, c4_, c5_, c6_, c7_, c8_, c9_, c10_, c11_] 7)] [(.int 7), (.ref o0), (.int (own_rn p1 [c0_, c1_, c2_, c3_, c4_, c5_, c6_, c7_, c8_, c9_, c10_, c11_] 7))]) := fun t k => K78 t (by
        refine Own.icmpNo X76 hx (D d7_97) (tlt hc79).2.2.2 ?_
        refine Own.iloadN X76 hx (D d7_100) rfl ?_
        refine Own.aloadN X76 hx (D d7_101) rfl rfl ?_
        refine Own.bipush X76 hx 7 (D d7_102) rfl ?_
        exact k)
      have K81 : Own.To p e below B0 T76 (mkF m 105 #[vr o0, vi p1, vi (own_rn p1 [c0_, c1_, c2_, c3_, c4_, c5_, c6_, c7_, c8_, c9_, c10_, c11_] 7)] [(.int c7_), (.int (own_rn p1 [c0_, c1_, c2_, c3_, c4_, c5_, c6_, c7_, c8_, c9_, c10_, c11_] 7))]) := fun t k => K80 t (by
        refine Own.cal X76 hx hZ e76 A0 c7_ (by decide) (show (7 : Int32).toNatClampNeg < 12 by decide) rfl (D d7_104) ?_
        exact k)
      obtain ⟨T82, X82, e82, st82⟩ := Own.callP (Ls := #[vr o0, vi p1, vi (own_rn p1 [c0_, c1_, c2_, c3_, c4_, c5_, c6_, c7_, c8_, c9_, c10_, c11_] 7)]) X76 hx hZ e76 [(.int (own_rn p1 [c0_, c1_, c2_, c3_, c4_, c5_, c6_, c7_, c8_, c9_, c10_, c11_] 7)), (.int c7_)] [] (c16 l Z a0 hw (own_rn p1 [c0_, c1_, c2_, c3_, c4_, c5_, c6_, c7_, c8_, c9_, c10_, c11_] 7) c7_  h0 ) hown (W_ hw 71 rfl) (W_ hw 72 rfl) (W_ hw 4 rfl) (W_ hw 73 rfl) (by decide) 0 rfl rfl (by decide) (by decide) (by decide) (by decide) (szOf hml rfl) (lenOf pd_4 rfl) rfl (Nat.le_of_eq rfl) (D d7_105)
      have K83 := fun t k => K81 t (st82 t k)
      have K84 : Own.To p e below B0 T82 (mkF m 109 #[vr o0, vi p1, vi (F16 (own_rn p1 [c0_, c1_, c2_, c3_, c4_, c5_, c6_, c7_, c8_, c9_, c10_, c11_] 7) c7_)] []) := fun t k => K83 t (by
        refine Own.istoreN X82 hx #[vr o0, vi p1, vi (F16 (own_rn p1 [c0_, c1_, c2_, c3_, c4_, c5_, c6_, c7_, c8_, c9_, c10_, c11_] 7) c7_)] (D d7_108) rfl ?_
        exact k)
      exact ⟨T82, X82, e82, fun t k => K84 t (by rw [hx86, if_pos hc79] at k; exact k)⟩
    · have K85 : Own.To p e below B0 T76 (mkF m 109 #[vr o0, vi p1, vi (own_rn p1 [c0_, c1_, c2_, c3_, c4_, c5_, c6_, c7_, c8_, c9_, c10_, c11_] 7)] []) := fun t k => K78 t (by
        refine Own.icmpYes X76 hx 109 (D d7_97) (flt hc79).2.2.2 (by decide) (by decide) ?_
        exact k)
      exact ⟨T76, X76, e76, fun t k => K85 t (by rw [hx86, if_neg hc79] at k; exact k)⟩
  have e88 : x86 = own_rn p1 [c0_, c1_, c2_, c3_, c4_, c5_, c6_, c7_, c8_, c9_, c10_, c11_] 8 := by rw [hx86]; rfl
  rw [e88] at K87
  have K89 : Own.To p e below B0 T87 (mkF m 112 #[vr o0, vi p1, vi (own_rn p1 [c0_, c1_, c2_, c3_, c4_, c5_, c6_, c7_, c8_, c9_, c10_, c11_] 8)] [(.int 8), (.int p1)]) := fun t k => K87 t (by
    refine Own.iloadN X87 hx (D d7_109) rfl ?_
    refine Own.bipush X87 hx 8 (D d7_110) rfl ?_
    exact k)
  obtain ⟨x97, hx97⟩ : ∃ z : Int32, z = (if (8 : Int32) < p1 then (F16 (own_rn p1 [c0_, c1_, c2_, c3_, c4_, c5_, c6_, c7_, c8_, c9_, c10_, c11_] 8) c8_) else (own_rn p1 [c0_, c1_, c2_, c3_, c4_, c5_, c6_, c7_, c8_, c9_, c10_, c11_] 8)) := ⟨_, rfl⟩
  obtain ⟨T98, X98, e98, K98⟩ : ∃ T' : State, Stand p l e ({ frames := 4, cells := 0, slots := 0, locals := 49 } : Room) s m #[(.ref o0), (.int p1)] below meth c T' [] 0 0 ∧ T'.heap = h0 ∧ Own.To p e below B0 T' (mkF m 124 #[vr o0, vi p1, vi x97] []) := by
    by_cases hc90 : (8 : Int32) < p1
    · have K91 : Own.To p e below B0 T87 (mkF m 119 #[vr o0, vi p1, vi (own_rn p1 [c0_, c1_, c2_, c3_, c4_, c5_, c6_, c7_, c8_, c9_, c10_, c11_] 8)] [(.int 8), (.ref o0), (.int (own_rn p1 [c0_, c1_, c2_, c3_, c4_, c5_, c6_, c7_, c8_, c9_, c10_, c11_] 8))]) := fun t k => K89 t (by
        refine Own.icmpNo X87 hx (D d7_112) (tlt hc90).2.2.2 ?_
        refine Own.iloadN X87 hx (D d7_115) rfl ?_
        refine Own.aloadN X87 hx (D d7_116) rfl rfl ?_
        refine Own.bipush X87 hx 8 (D d7_117) rfl ?_
        exact k)
      have K92 : Own.To p e below B0 T87 (mkF m 120 #[vr o0, vi p1, vi (own_rn p1 [c0_, c1_, c2_, c3_, c4_, c5_, c6_, c7_, c8_, c9_, c10_, c11_] 8)] [(.int c8_), (.int (own_rn p1 [c0_, c1_, c2_, c3_, c4_, c5_, c6_, c7_, c8_, c9_, c10_, c11_] 8))]) := fun t k => K91 t (by
        refine Own.cal X87 hx hZ e87 A0 c8_ (by decide) (show (8 : Int32).toNatClampNeg < 12 by decide) rfl (D d7_119) ?_
        exact k)
      obtain ⟨T93, X93, e93, st93⟩ := Own.callP (Ls := #[vr o0, vi p1, vi (own_rn p1 [c0_, c1_, c2_, c3_, c4_, c5_, c6_, c7_, c8_, c9_, c10_, c11_] 8)]) X87 hx hZ e87 [(.int (own_rn p1 [c0_, c1_, c2_, c3_, c4_, c5_, c6_, c7_, c8_, c9_, c10_, c11_] 8)), (.int c8_)] [] (c16 l Z a0 hw (own_rn p1 [c0_, c1_, c2_, c3_, c4_, c5_, c6_, c7_, c8_, c9_, c10_, c11_] 8) c8_  h0 ) hown (W_ hw 71 rfl) (W_ hw 72 rfl) (W_ hw 4 rfl) (W_ hw 73 rfl) (by decide) 0 rfl rfl (by decide) (by decide) (by decide) (by decide) (szOf hml rfl) (lenOf pd_4 rfl) rfl (Nat.le_of_eq rfl) (D d7_120)
      have K94 := fun t k => K92 t (st93 t k)
      have K95 : Own.To p e below B0 T93 (mkF m 124 #[vr o0, vi p1, vi (F16 (own_rn p1 [c0_, c1_, c2_, c3_, c4_, c5_, c6_, c7_, c8_, c9_, c10_, c11_] 8) c8_)] []) := fun t k => K94 t (by
        refine Own.istoreN X93 hx #[vr o0, vi p1, vi (F16 (own_rn p1 [c0_, c1_, c2_, c3_, c4_, c5_, c6_, c7_, c8_, c9_, c10_, c11_] 8) c8_)] (D d7_123) rfl ?_
        exact k)
      exact ⟨T93, X93, e93, fun t k => K95 t (by rw [hx97, if_pos hc90] at k; exact k)⟩
    · have K96 : Own.To p e below B0 T87 (mkF m 124 #[vr o0, vi p1, vi (own_rn p1 [c0_, c1_, c2_, c3_, c4_, c5_, c6_, c7_, c8_, c9_, c10_, c11_] 8)] []) := fun t k => K89 t (by
        refine Own.icmpYes X87 hx 124 (D d7_112) (flt hc90).2.2.2 (by decide) (by decide) ?_
        exact k)
      exact ⟨T87, X87, e87, fun t k => K96 t (by rw [hx97, if_neg hc90] at k; exact k)⟩
  have e99 : x97 = own_rn p1 [c0_, c1_, c2_, c3_, c4_, c5_, c6_, c7_, c8_, c9_, c10_, c11_] 9 := by rw [hx97]; rfl
  rw [e99] at K98
  have K100 : Own.To p e below B0 T98 (mkF m 127 #[vr o0, vi p1, vi (own_rn p1 [c0_, c1_, c2_, c3_, c4_, c5_, c6_, c7_, c8_, c9_, c10_, c11_] 9)] [(.int 9), (.int p1)]) := fun t k => K98 t (by
    refine Own.iloadN X98 hx (D d7_124) rfl ?_
    refine Own.bipush X98 hx 9 (D d7_125) rfl ?_
    exact k)
  obtain ⟨x108, hx108⟩ : ∃ z : Int32, z = (if (9 : Int32) < p1 then (F16 (own_rn p1 [c0_, c1_, c2_, c3_, c4_, c5_, c6_, c7_, c8_, c9_, c10_, c11_] 9) c9_) else (own_rn p1 [c0_, c1_, c2_, c3_, c4_, c5_, c6_, c7_, c8_, c9_, c10_, c11_] 9)) := ⟨_, rfl⟩
  obtain ⟨T109, X109, e109, K109⟩ : ∃ T' : State, Stand p l e ({ frames := 4, cells := 0, slots := 0, locals := 49 } : Room) s m #[(.ref o0), (.int p1)] below meth c T' [] 0 0 ∧ T'.heap = h0 ∧ Own.To p e below B0 T' (mkF m 139 #[vr o0, vi p1, vi x108] []) := by
    by_cases hc101 : (9 : Int32) < p1
    · have K102 : Own.To p e below B0 T98 (mkF m 134 #[vr o0, vi p1, vi (own_rn p1 [c0_, c1_, c2_, c3_, c4_, c5_, c6_, c7_, c8_, c9_, c10_, c11_] 9)] [(.int 9), (.ref o0), (.int (own_rn p1 [c0_, c1_, c2_, c3_, c4_, c5_, c6_, c7_, c8_, c9_, c10_, c11_] 9))]) := fun t k => K100 t (by
        refine Own.icmpNo X98 hx (D d7_127) (tlt hc101).2.2.2 ?_
        refine Own.iloadN X98 hx (D d7_130) rfl ?_
        refine Own.aloadN X98 hx (D d7_131) rfl rfl ?_
        refine Own.bipush X98 hx 9 (D d7_132) rfl ?_
        exact k)
      have K103 : Own.To p e below B0 T98 (mkF m 135 #[vr o0, vi p1, vi (own_rn p1 [c0_, c1_, c2_, c3_, c4_, c5_, c6_, c7_, c8_, c9_, c10_, c11_] 9)] [(.int c9_), (.int (own_rn p1 [c0_, c1_, c2_, c3_, c4_, c5_, c6_, c7_, c8_, c9_, c10_, c11_] 9))]) := fun t k => K102 t (by
        refine Own.cal X98 hx hZ e98 A0 c9_ (by decide) (show (9 : Int32).toNatClampNeg < 12 by decide) rfl (D d7_134) ?_
        exact k)
      obtain ⟨T104, X104, e104, st104⟩ := Own.callP (Ls := #[vr o0, vi p1, vi (own_rn p1 [c0_, c1_, c2_, c3_, c4_, c5_, c6_, c7_, c8_, c9_, c10_, c11_] 9)]) X98 hx hZ e98 [(.int (own_rn p1 [c0_, c1_, c2_, c3_, c4_, c5_, c6_, c7_, c8_, c9_, c10_, c11_] 9)), (.int c9_)] [] (c16 l Z a0 hw (own_rn p1 [c0_, c1_, c2_, c3_, c4_, c5_, c6_, c7_, c8_, c9_, c10_, c11_] 9) c9_  h0 ) hown (W_ hw 71 rfl) (W_ hw 72 rfl) (W_ hw 4 rfl) (W_ hw 73 rfl) (by decide) 0 rfl rfl (by decide) (by decide) (by decide) (by decide) (szOf hml rfl) (lenOf pd_4 rfl) rfl (Nat.le_of_eq rfl) (D d7_135)
      have K105 := fun t k => K103 t (st104 t k)
      have K106 : Own.To p e below B0 T104 (mkF m 139 #[vr o0, vi p1, vi (F16 (own_rn p1 [c0_, c1_, c2_, c3_, c4_, c5_, c6_, c7_, c8_, c9_, c10_, c11_] 9) c9_)] []) := fun t k => K105 t (by
        refine Own.istoreN X104 hx #[vr o0, vi p1, vi (F16 (own_rn p1 [c0_, c1_, c2_, c3_, c4_, c5_, c6_, c7_, c8_, c9_, c10_, c11_] 9) c9_)] (D d7_138) rfl ?_
        exact k)
      exact ⟨T104, X104, e104, fun t k => K106 t (by rw [hx108, if_pos hc101] at k; exact k)⟩
    · have K107 : Own.To p e below B0 T98 (mkF m 139 #[vr o0, vi p1, vi (own_rn p1 [c0_, c1_, c2_, c3_, c4_, c5_, c6_, c7_, c8_, c9_, c10_, c11_] 9)] []) := fun t k => K100 t (by
        refine Own.icmpYes X98 hx 139 (D d7_127) (flt hc101).2.2.2 (by decide) (by decide) ?_
        exact k)
      exact ⟨T98, X98, e98, fun t k => K107 t (by rw [hx108, if_neg hc101] at k; exact k)⟩
  have e110 : x108 = own_rn p1 [c0_, c1_, c2_, c3_, c4_, c5_, c6_, c7_, c8_, c9_, c10_, c11_] 10 := by rw [hx108]; rfl
  rw [e110] at K109
  have K111 : Own.To p e below B0 T109 (mkF m 142 #[vr o0, vi p1, vi (own_rn p1 [c0_, c1_, c2_, c3_, c4_, c5_, c6_, c7_, c8_, c9_, c10_, c11_] 10)] [(.int 10), (.int p1)]) := fun t k => K109 t (by
    refine Own.iloadN X109 hx (D d7_139) rfl ?_
    refine Own.bipush X109 hx 10 (D d7_140) rfl ?_
    exact k)
  obtain ⟨x120, hx120⟩ : ∃ z : Int32, z = (if (10 : Int32) < p1 then (F16 (own_rn p1 [c0_, c1_, c2_, c3_, c4_, c5_, c6_, c7_, c8_, c9_, c10_, c11_] 10) c10_) else (own_rn p1 [c0_, c1_, c2_, c3_, c4_, c5_, c6_, c7_, c8_, c9_, c10_, c11_] 10)) := ⟨_, rfl⟩
  obtain ⟨T121, X121, e121, K121⟩ : ∃ T' : State, Stand p l e ({ frames := 4, cells := 0, slots := 0, locals := 49 } : Room) s m #[(.ref o0), (.int p1)] below meth c T' [] 0 0 ∧ T'.heap = h0 ∧ Own.To p e below B0 T' (mkF m 154 #[vr o0, vi p1, vi x120] []) := by
    by_cases hc112 : (10 : Int32) < p1
    · have K113 : Own.To p e below B0 T109 (mkF m 149 #[vr o0, vi p1, vi (own_rn p1 [c0_, c1_, c2_, c3_, c4_, c5_, c6_, c7_, c8_, c9_, c10_, c11_] 10)] [(.int 10), (.ref o0), (.int (own_rn p1 [c0_, c1_, c2_, c3_, c4_, c5_, c6_, c7_, c8_, c9_, c10_, c11_] 10))]) := fun t k => K111 t (by
        refine Own.icmpNo X109 hx (D d7_142) (tlt hc112).2.2.2 ?_
        refine Own.iloadN X109 hx (D d7_145) rfl ?_
        refine Own.aloadN X109 hx (D d7_146) rfl rfl ?_
        refine Own.bipush X109 hx 10 (D d7_147) rfl ?_
        exact k)
      have K114 : Own.To p e below B0 T109 (mkF m 150 #[vr o0, vi p1, vi (own_rn p1 [c0_, c1_, c2_, c3_, c4_, c5_, c6_, c7_, c8_, c9_, c10_, c11_] 10)] [(.int c10_), (.int (own_rn p1 [c0_, c1_, c2_, c3_, c4_, c5_, c6_, c7_, c8_, c9_, c10_, c11_] 10))]) := fun t k => K113 t (by
        refine Own.cal X109 hx hZ e109 A0 c10_ (by decide) (show (10 : Int32).toNatClampNeg < 12 by decide) rfl (D d7_149) ?_
        exact k)
      obtain ⟨T115, X115, e115, st115⟩ := Own.callP (Ls := #[vr o0, vi p1, vi (own_rn p1 [c0_, c1_, c2_, c3_, c4_, c5_, c6_, c7_, c8_, c9_, c10_, c11_] 10)]) X109 hx hZ e109 [(.int (own_rn p1 [c0_, c1_, c2_, c3_, c4_, c5_, c6_, c7_, c8_, c9_, c10_, c11_] 10)), (.int c10_)] [] (c16 l Z a0 hw (own_rn p1 [c0_, c1_, c2_, c3_, c4_, c5_, c6_, c7_, c8_, c9_, c10_, c11_] 10) c10_  h0 ) hown (W_ hw 71 rfl) (W_ hw 72 rfl) (W_ hw 4 rfl) (W_ hw 73 rfl) (by decide) 0 rfl rfl (by decide) (by decide) (by decide) (by decide) (szOf hml rfl) (lenOf pd_4 rfl) rfl (Nat.le_of_eq rfl) (D d7_150)
      have K116 := fun t k => K114 t (st115 t k)
      obtain ⟨x117, hx117⟩ : ∃ z : Int32, z = (F16 (own_rn p1 [c0_, c1_, c2_, c3_, c4_, c5_, c6_, c7_, c8_, c9_, c10_, c11_] 10) c10_) := ⟨_, rfl⟩
      have K118 : Own.To p e below B0 T115 (mkF m 154 #[vr o0, vi p1, vi x117] []) := fun t k => K116 t (by
        subst hx117
        refine Own.istoreN X115 hx #[vr o0, vi p1, vi (F16 (own_rn p1 [c0_, c1_, c2_, c3_, c4_, c5_, c6_, c7_, c8_, c9_, c10_, c11_] 10) c10_)] (D d7_153) rfl ?_
        exact k)
      exact ⟨T115, X115, e115, fun t k => K118 t (by subst hx117; rw [hx120, if_pos hc112] at k; exact k)⟩
    · have K119 : Own.To p e below B0 T109 (mkF m 154 #[vr o0, vi p1, vi (own_rn p1 [c0_, c1_, c2_, c3_, c4_, c5_, c6_, c7_, c8_, c9_, c10_, c11_] 10)] []) := fun t k => K111 t (by
        refine Own.icmpYes X109 hx 154 (D d7_142) (flt hc112).2.2.2 (by decide) (by decide) ?_
        exact k)
      exact ⟨T109, X109, e109, fun t k => K119 t (by rw [hx120, if_neg hc112] at k; exact k)⟩
  have e122 : x120 = own_rn p1 [c0_, c1_, c2_, c3_, c4_, c5_, c6_, c7_, c8_, c9_, c10_, c11_] 11 := by rw [hx120]; rfl
  rw [e122] at K121
  have K123 : Own.To p e below B0 T121 (mkF m 157 #[vr o0, vi p1, vi (own_rn p1 [c0_, c1_, c2_, c3_, c4_, c5_, c6_, c7_, c8_, c9_, c10_, c11_] 11)] [(.int 11), (.int p1)]) := fun t k => K121 t (by
    refine Own.iloadN X121 hx (D d7_154) rfl ?_
    refine Own.bipush X121 hx 11 (D d7_155) rfl ?_
    exact k)
  obtain ⟨x132, hx132⟩ : ∃ z : Int32, z = (if (11 : Int32) < p1 then (F16 (own_rn p1 [c0_, c1_, c2_, c3_, c4_, c5_, c6_, c7_, c8_, c9_, c10_, c11_] 11) c11_) else (own_rn p1 [c0_, c1_, c2_, c3_, c4_, c5_, c6_, c7_, c8_, c9_, c10_, c11_] 11)) := ⟨_, rfl⟩
  obtain ⟨T133, X133, e133, K133⟩ : ∃ T' : State, Stand p l e ({ frames := 4, cells := 0, slots := 0, locals := 49 } : Room) s m #[(.ref o0), (.int p1)] below meth c T' [] 0 0 ∧ T'.heap = h0 ∧ Own.To p e below B0 T' (mkF m 169 #[vr o0, vi p1, vi x132] []) := by
    by_cases hc124 : (11 : Int32) < p1
    · have K125 : Own.To p e below B0 T121 (mkF m 164 #[vr o0, vi p1, vi (own_rn p1 [c0_, c1_, c2_, c3_, c4_, c5_, c6_, c7_, c8_, c9_, c10_, c11_] 11)] [(.int 11), (.ref o0), (.int (own_rn p1 [c0_, c1_, c2_, c3_, c4_, c5_, c6_, c7_, c8_, c9_, c10_, c11_] 11))]) := fun t k => K123 t (by
        refine Own.icmpNo X121 hx (D d7_157) (tlt hc124).2.2.2 ?_
        refine Own.iloadN X121 hx (D d7_160) rfl ?_
        refine Own.aloadN X121 hx (D d7_161) rfl rfl ?_
        refine Own.bipush X121 hx 11 (D d7_162) rfl ?_
        exact k)
      have K126 : Own.To p e below B0 T121 (mkF m 165 #[vr o0, vi p1, vi (own_rn p1 [c0_, c1_, c2_, c3_, c4_, c5_, c6_, c7_, c8_, c9_, c10_, c11_] 11)] [(.int c11_), (.int (own_rn p1 [c0_, c1_, c2_, c3_, c4_, c5_, c6_, c7_, c8_, c9_, c10_, c11_] 11))]) := fun t k => K125 t (by
        refine Own.cal X121 hx hZ e121 A0 c11_ (by decide) (show (11 : Int32).toNatClampNeg < 12 by decide) rfl (D d7_164) ?_
        exact k)
      obtain ⟨T127, X127, e127, st127⟩ := Own.callP (Ls := #[vr o0, vi p1, vi (own_rn p1 [c0_, c1_, c2_, c3_, c4_, c5_, c6_, c7_, c8_, c9_, c10_, c11_] 11)]) X121 hx hZ e121 [(.int (own_rn p1 [c0_, c1_, c2_, c3_, c4_, c5_, c6_, c7_, c8_, c9_, c10_, c11_] 11)), (.int c11_)] [] (c16 l Z a0 hw (own_rn p1 [c0_, c1_, c2_, c3_, c4_, c5_, c6_, c7_, c8_, c9_, c10_, c11_] 11) c11_  h0 ) hown (W_ hw 71 rfl) (W_ hw 72 rfl) (W_ hw 4 rfl) (W_ hw 73 rfl) (by decide) 0 rfl rfl (by decide) (by decide) (by decide) (by decide) (szOf hml rfl) (lenOf pd_4 rfl) rfl (Nat.le_of_eq rfl) (D d7_165)
      have K128 := fun t k => K126 t (st127 t k)
      obtain ⟨x129, hx129⟩ : ∃ z : Int32, z = (F16 (own_rn p1 [c0_, c1_, c2_, c3_, c4_, c5_, c6_, c7_, c8_, c9_, c10_, c11_] 11) c11_) := ⟨_, rfl⟩
      have K130 : Own.To p e below B0 T127 (mkF m 169 #[vr o0, vi p1, vi x129] []) := fun t k => K128 t (by
        subst hx129
        refine Own.istoreN X127 hx #[vr o0, vi p1, vi (F16 (own_rn p1 [c0_, c1_, c2_, c3_, c4_, c5_, c6_, c7_, c8_, c9_, c10_, c11_] 11) c11_)] (D d7_168) rfl ?_
        exact k)
      exact ⟨T127, X127, e127, fun t k => K130 t (by subst hx129; rw [hx132, if_pos hc124] at k; exact k)⟩
    · have K131 : Own.To p e below B0 T121 (mkF m 169 #[vr o0, vi p1, vi (own_rn p1 [c0_, c1_, c2_, c3_, c4_, c5_, c6_, c7_, c8_, c9_, c10_, c11_] 11)] []) := fun t k => K123 t (by
        refine Own.icmpYes X121 hx 169 (D d7_157) (flt hc124).2.2.2 (by decide) (by decide) ?_
        exact k)
      exact ⟨T121, X121, e121, fun t k => K131 t (by rw [hx132, if_neg hc124] at k; exact k)⟩
  have e134 : x132 = own_rn p1 [c0_, c1_, c2_, c3_, c4_, c5_, c6_, c7_, c8_, c9_, c10_, c11_] 12 := by rw [hx132]; rfl
  rw [e134] at K133
  have K135 : Own.To p e below B0 T133 (mkF m 170 #[vr o0, vi p1, vi (own_rn p1 [c0_, c1_, c2_, c3_, c4_, c5_, c6_, c7_, c8_, c9_, c10_, c11_] 12)] [(.int (own_rn p1 [c0_, c1_, c2_, c3_, c4_, c5_, c6_, c7_, c8_, c9_, c10_, c11_] 12))]) := fun t k => K133 t (by
    refine Own.iloadN X133 hx (D d7_169) rfl ?_
    exact k)
  exact Own.finI X133 hx (BodyLoose.notSynchronized Bd) Bd.returns (D d7_170) K135 (by decide) (by decide) ⟨rfl, rfl, e133⟩

theorem own_lt {a b : Nat} (ha : a < 2 ^ 31) (hb : b < 2 ^ 31) : Int32.ofNat a < Int32.ofNat b ↔ a < b := by
  rw [Int32.lt_iff_toInt_lt, Int32.toInt_ofNat_small ha, Int32.toInt_ofNat_small hb]; omega
theorem own_oi {a b : Nat} (ha : a < 2 ^ 31) (hb : b < 2 ^ 31) : Int32.ofNat a = Int32.ofNat b ↔ a = b := by
  rw [← Int32.toInt_inj, Int32.toInt_ofNat_small ha, Int32.toInt_ofNat_small hb]; omega
theorem own_succ (a : Nat) : Int32.ofNat a + (1 : Int32) = Int32.ofNat (a + 1) := (Int32.ofNat_add a 1).symm
theorem own_m1 {a : Nat} (h : a < 2 ^ 31) : ¬ Int32.ofNat a = (-1 : Int32) := fun q => by
  have := congrArg Int32.toInt q
  rw [Int32.toInt_ofNat_small h, show (-1 : Int32).toInt = -1 by decide] at this; omega
theorem own_Txt.len {Z : State} {h : Heap} {x : Addr} {cs : List Int32} (F : own_Txt Z h x cs) : cs.length ≤ 4000 := by obtain ⟨t, kb, -, -, -, -, -, f6⟩ := F; exact f6
theorem own_Txt.ok {Z : State} {h : Heap} {x : Addr} {cs : List Int32} (F : own_Txt Z h x cs) : ∀ c ∈ cs, own_ok c := by obtain ⟨t, kb, -, -, -, -, f5, -⟩ := F; exact f5
theorem own_okg {cs : List Int32} {a : Nat} (hok : ∀ c ∈ cs, own_ok c) (h : a < cs.length) : own_ok (cs.getD a 0) := hok _ (Own.getD_mem h)
def own_ixl (b : Int32) (ms : List Int32) : Nat → Nat → Int32
  | 0, _ => -1
  | n + 1, a => if ms.getD a 0 = b then Int32.ofNat a else own_ixl b ms n (a + 1)
def own_run (f : Int32 → Int32) (cs : List Int32) : Nat → Nat → Nat
  | 0, a => a
  | n + 1, a => if f (cs.getD a 0) = 0 then a else own_run f cs n (a + 1)
theorem own_run_ge (f : Int32 → Int32) (cs : List Int32) : ∀ n a, a ≤ own_run f cs n a
  | 0, a => Nat.le_refl _
  | n + 1, a => by
    by_cases q : f (cs.getD a 0) = 0
    · rw [own_run, if_pos q]; exact Nat.le_refl _
    · rw [own_run, if_neg q]; exact Nat.le_trans (Nat.le_succ a) (own_run_ge f cs n (a + 1))
theorem own_run_le (f : Int32 → Int32) (cs : List Int32) : ∀ n a, own_run f cs n a ≤ a + n
  | 0, a => Nat.le_refl _
  | n + 1, a => by
    by_cases q : f (cs.getD a 0) = 0
    · rw [own_run, if_pos q]; omega
    · rw [own_run, if_neg q]; have := own_run_le f cs n (a + 1); omega
theorem own_run_st (f : Int32 → Int32) (cs : List Int32) : ∀ n a, own_run f cs n a < a + n → f (cs.getD (own_run f cs n a) 0) = 0
  | 0, a, h => absurd h (by rw [own_run]; omega)
  | n + 1, a, h => by
    by_cases q : f (cs.getD a 0) = 0
    · rw [own_run, if_pos q]; exact q
    · rw [own_run, if_neg q] at h ⊢; exact own_run_st f cs n (a + 1) (by omega)
def own_E (f : Int32 → Int32) (cs : List Int32) (a : Nat) : Nat := own_run f cs (cs.length - a) a
theorem own_E_ge (f : Int32 → Int32) (cs : List Int32) (a : Nat) : a ≤ own_E f cs a := own_run_ge _ _ _ _
theorem own_E_le (f : Int32 → Int32) (cs : List Int32) (a : Nat) : own_E f cs a ≤ a + (cs.length - a) := own_run_le _ _ _ _
theorem own_E_st {f : Int32 → Int32} {cs : List Int32} {a : Nat} (h : a ≤ cs.length) (h2 : own_E f cs a < cs.length) : f (cs.getD (own_E f cs a) 0) = 0 := own_run_st f cs (cs.length - a) a (by show own_E f cs a < _; omega)
def own_at (cs : List Int32) (i : Nat) (c : Int32) : Int32 := if i < cs.length ∧ cs.getD i 0 = c then 1 else 0
theorem own_at_p {cs : List Int32} {i : Nat} {c : Int32} (h : i < cs.length ∧ cs.getD i 0 = c) : own_at cs i c = 1 := if_pos h
theorem own_at_n {cs : List Int32} {i : Nat} {c : Int32} (h : ¬ (i < cs.length ∧ cs.getD i 0 = c)) : own_at cs i c = 0 := if_neg h
theorem own_atl {cs : List Int32} {i : Nat} {c : Int32} (h : ¬ own_at cs i c = 0) : i < cs.length ∧ cs.getD i 0 = c := Decidable.byContradiction fun q => h (own_at_n q)
theorem own_atz {cs : List Int32} {i : Nat} {c : Int32} (h : own_at cs i c = 0) (hi : i < cs.length) : ¬ cs.getD i 0 = c := fun q => by rw [own_at_p ⟨hi, q⟩] at h; exact absurd h (by decide)
theorem own_ce {c : Int32} (h : own_ok c) : F33 c = 1 := by
  unfold F33
  rw [if_neg h.1, if_neg h.2]; rfl
theorem own_mm (x : Int32) : F35 x x = x := by unfold F35; split <;> rfl
theorem own_Txt.opn {Z : State} {h : Heap} {x : Addr} {cs : List Int32} (F : own_Txt Z h x cs) : ∃ t, Exa Z h x "java/lang/String" ∧ Fld Z h x "java/lang/String" "value" "[B" (.ref t) ∧ Fld Z h x "java/lang/String" "coder" "B" (.int 0) ∧ Own.CA Z h t .byte (cs.map StrChars.lo8) ∧ (∀ c ∈ cs, ¬ c < 0 ∧ ¬ (255 : Int32) < c) ∧ cs.length ≤ 4000 := by
  obtain ⟨t, kb, f1, f2, f3, f4, f5, f6⟩ := F
  exact ⟨t, f1, f2, f3, ⟨kb, by rw [List.length_map]; exact f4, by rw [List.length_map]; omega⟩, f5, f6⟩

theorem d19_0 : decode J3 0 = .ok (.getstatic 38, 3) := by decide +kernel
theorem d19_3 : decode J3 3 = .ok (.ifCond .eq 14, 3) := by decide +kernel
theorem d19_6 : decode J3 6 = .ok (.aload_n 0, 1) := by decide +kernel
theorem d19_7 : decode J3 7 = .ok (.getfield 15, 3) := by decide +kernel
theorem d19_10 : decode J3 10 = .ok (.ifCond .ne 7, 3) := by decide +kernel
theorem d19_13 : decode J3 13 = .ok (.iconst 1, 1) := by decide +kernel
theorem d19_14 : decode J3 14 = .ok (.goto 4, 3) := by decide +kernel
theorem d19_18 : decode J3 18 = .ok (.ireturn, 1) := by decide +kernel
theorem ef_19 (m : MethodId) (o0 : Addr) : entryFrame m #[(.ref o0)] 1 = mkF m 0 #[.val (.ref o0)] [] := by first | (simp [entryFrame, mkF, argsToLocals, Value.category]; done) | rfl
set_option maxRecDepth 65536 in
set_option maxHeartbeats 40000000 in
theorem cSIL (l : Launch) (Z : State) (a0 : Array Value) (hw : ∀ d ∈ tables_1, d.before a0 Z = true) (o0 : Addr) (ds : List Int32) (G1 : Int32) (h0 : Heap) (TX : own_Txt Z h0 o0 ds) (SC : Sta Z h0 "java/lang/String" "COMPACT_STRINGS" "Z" (.int G1)) (hG1 : ¬ G1 = 0) : Own.Con l Z (⟨"java/lang/String", "isLatin1", "()Z"⟩ : MethodName) jdk_42_method_154_code 1 (some .boolean) ({ frames := 0, cells := 0, slots := 0, locals := 0 } : Room) #[(.ref o0)] h0 (Own.Pure (.int 1) h0) := by
  intro ws
  refine MetFree.of_bodySF (plainFor_of_name pn_0) hisR ?_
  intro p e s m args below meth c s₁ Bd hml0 hP hK
  obtain ⟨rfl, hZ, hh⟩ := hP
  have hx := Bd.exec
  have hby := Bd.bytes
  have D := fun {n : Nat} {i} (d : decode jdk_42_method_154_code n = .ok i) => hb hby d
  have hml : c.maxLocals = 1 := hml0
  have hown : s.vm.findClass "java/lang/String" = some m.cls := findClass_of_methodNamed Bd.named
  have hnm := (name_of_methodNamed Bd.named Bd.method).1
  have X0 : Stand p l e ({ frames := 0, cells := 0, slots := 0, locals := 0 } : Room) s m #[(.ref o0)] below meth c s₁ [] 0 0 := Stand.of_body Bd
  have e0 : s₁.heap = h0 := by rw [← hh, Bd.state]; rfl
  have K0 : ∀ t, Steps p.tables e below (s₁.setTop (mkF m 0 #[vr o0] [])) t → Steps p.tables e below (s₁.setTop (entryFrame m #[(.ref o0)] 1)) t := fun t k => castTop (ef_19 m o0) k
  generalize s₁.setTop (entryFrame m #[(.ref o0)] 1) = B0 at K0 ⊢
  show Own.Fin p e below B0 s (({ frames := 0, cells := 0, slots := 0, locals := 0 } : Room)).cells (({ frames := 0, cells := 0, slots := 0, locals := 0 } : Room)).slots (Own.Pure (.int 1) h0)
  obtain ⟨t0, E0, F0, F1, A0, hok, hcs⟩ := TX.opn
  obtain ⟨T1, X1, e1, st1⟩ := Own.getS (Ls := #[vr o0]) X0 hx hZ e0 hown (host := "") (Or.inl (W_ hw 60 rfl)) Via.refl SC (S := []) (D d19_0)
  have K2 := fun t k => K0 t (st1 t k)
  have K3 : Own.To p e below B0 T1 (mkF m 7 #[vr o0] [(.ref o0)]) := fun t k => K2 t (by
    refine Own.ifNo X1 hx (D d19_3) ((if0 _ _).trans (feq (hG1 : ¬ (G1 = (0 : Int32)))).1) ?_
    refine Own.aloadN X1 hx (D d19_6) rfl rfl ?_
    exact k)
  obtain ⟨T4, X4, e4, st4⟩ := Own.getF (Ls := #[vr o0]) X1 hx hZ e1 hown (host := "") (Or.inl (W_ hw 36 rfl)) Via.refl F1 (S := []) (D d19_7)
  have K5 := fun t k => K3 t (st4 t k)
  have K6 : Own.To p e below B0 T4 (mkF m 18 #[vr o0] [(.int 1)]) := fun t k => K5 t (by
    refine Own.ifNo X4 hx (D d19_10) ((if0 _ _).trans (teq (by decide : (0 : Int32) = (0 : Int32))).2) ?_
    refine Own.iconst X4 hx 1 (D d19_13) rfl ?_
    refine Own.goto X4 hx 18 (D d19_14) (by decide) (by decide) ?_
    exact k)
  exact Own.finN X4 hx (BodyLoose.notSynchronized Bd) Bd.returns (by simp) (D d19_18) K6 (by decide) (by decide) ⟨rfl, rfl, e4⟩

theorem d36_0 : decode J8 0 = .ok (.iload_n 1, 1) := by decide +kernel
theorem d36_1 : decode J8 1 = .ok (.i2b, 1) := by decide +kernel
theorem d36_2 : decode J8 2 = .ok (.istore 4, 2) := by decide +kernel
theorem d36_4 : decode J8 4 = .ok (.iload_n 2, 1) := by decide +kernel
theorem d36_5 : decode J8 5 = .ok (.istore 5, 2) := by decide +kernel
theorem d36_7 : decode J8 7 = .ok (.iload 5, 2) := by decide +kernel
theorem d36_9 : decode J8 9 = .ok (.iload_n 3, 1) := by decide +kernel
theorem d36_10 : decode J8 10 = .ok (.if_icmp .ge 21, 3) := by decide +kernel
theorem d36_13 : decode J8 13 = .ok (.aload_n 0, 1) := by decide +kernel
theorem d36_14 : decode J8 14 = .ok (.iload 5, 2) := by decide +kernel
theorem d36_16 : decode J8 16 = .ok (.baload, 1) := by decide +kernel
theorem d36_17 : decode J8 17 = .ok (.iload 4, 2) := by decide +kernel
theorem d36_19 : decode J8 19 = .ok (.if_icmp .ne 6, 3) := by decide +kernel
theorem d36_22 : decode J8 22 = .ok (.iload 5, 2) := by decide +kernel
theorem d36_24 : decode J8 24 = .ok (.ireturn, 1) := by decide +kernel
theorem d36_25 : decode J8 25 = .ok (.iinc 5 1, 3) := by decide +kernel
theorem d36_28 : decode J8 28 = .ok (.goto (-21), 3) := by decide +kernel
theorem d36_31 : decode J8 31 = .ok (.iconst (-1), 1) := by decide +kernel
theorem d36_32 : decode J8 32 = .ok (.ireturn, 1) := by decide +kernel
theorem ef_36 (m : MethodId) (o0 : Addr) (p1 : Int32) (p2 : Int32) (p3 : Int32) : entryFrame m #[(.ref o0), (.int p1), (.int p2), (.int p3)] 6 = mkF m 0 #[.val (.ref o0), .val (.int p1), .val (.int p2), .val (.int p3), .unset, .unset] [] := by first | (simp [entryFrame, mkF, argsToLocals, Value.category]; done) | rfl
set_option maxRecDepth 65536 in
set_option maxHeartbeats 40000000 in
theorem cIOC (l : Launch) (Z : State) (a0 : Array Value) (hw : ∀ d ∈ tables_1, d.before a0 Z = true) (o0 : Addr) (p1 : Int32) (ds : List Int32) (h0 : Heap) (A0 : Own.CA Z h0 o0 .byte (ds.map StrChars.lo8)) (hds : ds.length ≤ 4000) : Own.Con l Z (⟨"java/lang/StringLatin1", "indexOfChar", "([BIII)I"⟩ : MethodName) jdk_43_method_23_code 6 (some .int) ({ frames := 0, cells := 0, slots := 0, locals := 0 } : Room) #[(.ref o0), (.int p1), (.int 0), (.int (Int32.ofNat ds.length))] h0 (Own.Pure (.int (own_ixl (p1.toInt8.toInt32) (ds.map StrChars.lo8) ds.length 0)) h0) := by
  intro ws
  refine MetFree.of_bodySF (plainFor_of_name pn_3) hisR ?_
  intro p e s m args below meth c s₁ Bd hml0 hP hK
  obtain ⟨rfl, hZ, hh⟩ := hP
  have hx := Bd.exec
  have hby := Bd.bytes
  have D := fun {n : Nat} {i} (d : decode jdk_43_method_23_code n = .ok i) => hb hby d
  have hml : c.maxLocals = 6 := hml0
  have hown : s.vm.findClass "java/lang/StringLatin1" = some m.cls := findClass_of_methodNamed Bd.named
  have hnm := (name_of_methodNamed Bd.named Bd.method).1
  have X0 : Stand p l e ({ frames := 0, cells := 0, slots := 0, locals := 0 } : Room) s m #[(.ref o0), (.int p1), (.int 0), (.int (Int32.ofNat ds.length))] below meth c s₁ [] 0 0 := Stand.of_body Bd
  have e0 : s₁.heap = h0 := by rw [← hh, Bd.state]; rfl
  have K0 : ∀ t, Steps p.tables e below (s₁.setTop (mkF m 0 #[vr o0, vi p1, vi 0, vi (Int32.ofNat ds.length), .unset, .unset] [])) t → Steps p.tables e below (s₁.setTop (entryFrame m #[(.ref o0), (.int p1), (.int 0), (.int (Int32.ofNat ds.length))] 6)) t := fun t k => castTop (ef_36 m o0 p1 (0 : Int32) (Int32.ofNat ds.length)) k
  generalize s₁.setTop (entryFrame m #[(.ref o0), (.int p1), (.int 0), (.int (Int32.ofNat ds.length))] 6) = B0 at K0 ⊢
  show Own.Fin p e below B0 s (({ frames := 0, cells := 0, slots := 0, locals := 0 } : Room)).cells (({ frames := 0, cells := 0, slots := 0, locals := 0 } : Room)).slots (Own.Pure (.int (own_ixl (p1.toInt8.toInt32) (ds.map StrChars.lo8) ds.length 0)) h0)
  have K1 : Own.To p e below B0 s₁ (mkF m 7 #[vr o0, vi p1, vi 0, vi (Int32.ofNat ds.length), vi (p1.toInt8.toInt32), vi 0] []) := fun t k => K0 t (by
    refine Own.iloadN X0 hx (D d36_0) rfl ?_
    refine Own.i2b X0 hx (D d36_1) ?_
    refine Own.istore X0 hx #[vr o0, vi p1, vi 0, vi (Int32.ofNat ds.length), vi (p1.toInt8.toInt32), .unset] (D d36_2) rfl ?_
    refine Own.iloadN X0 hx (D d36_4) rfl ?_
    refine Own.istore X0 hx #[vr o0, vi p1, vi 0, vi (Int32.ofNat ds.length), vi (p1.toInt8.toInt32), vi 0] (D d36_5) rfl ?_
    exact k)
  have loop : ∀ (n : Nat) (a : Nat) (T : State), a + n = ds.length → (own_ixl (p1.toInt8.toInt32) (ds.map StrChars.lo8) ds.length 0) = own_ixl (p1.toInt8.toInt32) (ds.map StrChars.lo8) n a → Stand p l e ({ frames := 0, cells := 0, slots := 0, locals := 0 } : Room) s m #[(.ref o0), (.int p1), (.int 0), (.int (Int32.ofNat ds.length))] below meth c T [] 0 0 → T.heap = h0 → (∀ t, Steps p.tables e below (T.setTop (mkF m 7 #[vr o0, vi p1, vi 0, vi (Int32.ofNat ds.length), vi (p1.toInt8.toInt32), vi (Int32.ofNat a)] [])) t → Steps p.tables e below B0 t) → Own.Fin p e below B0 s (({ frames := 0, cells := 0, slots := 0, locals := 0 } : Room)).cells (({ frames := 0, cells := 0, slots := 0, locals := 0 } : Room)).slots (Own.Pure (.int (own_ixl (p1.toInt8.toInt32) (ds.map StrChars.lo8) ds.length 0)) h0) := by
    intro n
    induction n with
    | zero =>
      intro a T ha hR X eT K
      have K2 : Own.To p e below B0 T (mkF m 10 #[vr o0, vi p1, vi 0, vi (Int32.ofNat ds.length), vi (p1.toInt8.toInt32), vi (Int32.ofNat a)] [(.int (Int32.ofNat ds.length)), (.int (Int32.ofNat a))]) := fun t k => K t (by
        refine Own.iload X hx (D d36_7) rfl ?_
        refine Own.iloadN X hx (D d36_9) rfl ?_
        exact k)
      have K3 : Own.To p e below B0 T (mkF m 32 #[vr o0, vi p1, vi 0, vi (Int32.ofNat ds.length), vi (p1.toInt8.toInt32), vi (Int32.ofNat a)] [(.int (-1))]) := fun t k => K2 t (by
        refine Own.icmpYes X hx 31 (D d36_10) (flt (fun q => absurd ((own_lt (by omega) (by omega)).mp q) (by omega) : ¬ ((Int32.ofNat a) < (Int32.ofNat ds.length)))).2.1 (by decide) (by decide) ?_
        refine Own.iconst X hx (-1 : Int32) (D d36_31) rfl ?_
        exact k)
      exact Own.finI X hx (BodyLoose.notSynchronized Bd) Bd.returns (D d36_32) K3 (by decide) (by decide) ⟨by rw [hR]; rfl, rfl, eT⟩
    | succ n ih =>
      intro a T ha hR X eT K
      have K4 : Own.To p e below B0 T (mkF m 10 #[vr o0, vi p1, vi 0, vi (Int32.ofNat ds.length), vi (p1.toInt8.toInt32), vi (Int32.ofNat a)] [(.int (Int32.ofNat ds.length)), (.int (Int32.ofNat a))]) := fun t k => K t (by
        refine Own.iload X hx (D d36_7) rfl ?_
        refine Own.iloadN X hx (D d36_9) rfl ?_
        exact k)
      have K5 : Own.To p e below B0 T (mkF m 16 #[vr o0, vi p1, vi 0, vi (Int32.ofNat ds.length), vi (p1.toInt8.toInt32), vi (Int32.ofNat a)] [(.int (Int32.ofNat a)), (.ref o0)]) := fun t k => K4 t (by
        refine Own.icmpNo X hx (D d36_10) (tlt ((own_lt (by omega) (by omega)).mpr (by omega) : (Int32.ofNat a) < (Int32.ofNat ds.length))).2.1 ?_
        refine Own.aloadN X hx (D d36_13) rfl rfl ?_
        refine Own.iload X hx (D d36_14) rfl ?_
        exact k)
      have K6 : Own.To p e below B0 T (mkF m 19 #[vr o0, vi p1, vi 0, vi (Int32.ofNat ds.length), vi (p1.toInt8.toInt32), vi (Int32.ofNat a)] [(.int (p1.toInt8.toInt32)), (.int ((ds.map StrChars.lo8).getD a 0))]) := fun t k => K5 t (by
        refine Own.bal (j := Int32.ofNat a) X hx hZ eT A0 ((ds.map StrChars.lo8).getD a 0) (Int32.ofNat_not_neg (by omega)) (by rw [Own.ofNat_clamp (by omega), List.length_map]; omega) (by rw [Own.ofNat_clamp (by omega)]) (D d36_16) ?_
        refine Own.iload X hx (D d36_17) rfl ?_
        exact k)
      by_cases hc7 : ((ds.map StrChars.lo8).getD a 0) = (p1.toInt8.toInt32)
      · have K8 : Own.To p e below B0 T (mkF m 24 #[vr o0, vi p1, vi 0, vi (Int32.ofNat ds.length), vi (p1.toInt8.toInt32), vi (Int32.ofNat a)] [(.int (Int32.ofNat a))]) := fun t k => K6 t (by
          refine Own.icmpNo X hx (D d36_19) (teq hc7).2 ?_
          refine Own.iload X hx (D d36_22) rfl ?_
          exact k)
        exact Own.finI X hx (BodyLoose.notSynchronized Bd) Bd.returns (D d36_24) K8 (by decide) (by decide) ⟨by rw [hR, own_ixl, if_pos hc7], rfl, eT⟩
      · have K9 : Own.To p e below B0 T (mkF m 7 #[vr o0, vi p1, vi 0, vi (Int32.ofNat ds.length), vi (p1.toInt8.toInt32), vi ((Int32.ofNat a) + (1 : Int32))] []) := fun t k => K6 t (by
          refine Own.icmpYes X hx 25 (D d36_19) (feq hc7).2 (by decide) (by decide) ?_
          refine Own.iinc X hx ((Int32.ofNat a) + (1 : Int32)) #[vr o0, vi p1, vi 0, vi (Int32.ofNat ds.length), vi (p1.toInt8.toInt32), vi ((Int32.ofNat a) + (1 : Int32))] (D d36_25) rfl rfl rfl ?_
          refine Own.goto X hx 7 (D d36_28) (by decide) (by decide) ?_
          exact k)
        rw [own_succ] at K9
        exact ih (a + 1) T (by omega) (by rw [hR, own_ixl, if_neg hc7]) X eT K9
  exact loop ds.length 0 s₁ (by omega) rfl X0 e0 K1

theorem d32_0 : decode J7 0 = .ok (.iload_n 1, 1) := by decide +kernel
theorem d32_1 : decode J7 1 = .ok (.invokestatic 88, 3) := by decide +kernel
theorem d32_4 : decode J7 4 = .ok (.ifCond .ne 5, 3) := by decide +kernel
theorem d32_9 : decode J7 9 = .ok (.iload_n 2, 1) := by decide +kernel
theorem d32_10 : decode J7 10 = .ok (.iconst 0, 1) := by decide +kernel
theorem d32_11 : decode J7 11 = .ok (.invokestatic 92, 3) := by decide +kernel
theorem d32_14 : decode J7 14 = .ok (.istore_n 2, 1) := by decide +kernel
theorem d32_15 : decode J7 15 = .ok (.iload_n 3, 1) := by decide +kernel
theorem d32_16 : decode J7 16 = .ok (.aload_n 0, 1) := by decide +kernel
theorem d32_17 : decode J7 17 = .ok (.arraylength, 1) := by decide +kernel
theorem d32_18 : decode J7 18 = .ok (.invokestatic 38, 3) := by decide +kernel
theorem d32_21 : decode J7 21 = .ok (.istore_n 3, 1) := by decide +kernel
theorem d32_22 : decode J7 22 = .ok (.iload_n 2, 1) := by decide +kernel
theorem d32_23 : decode J7 23 = .ok (.iload_n 3, 1) := by decide +kernel
theorem d32_24 : decode J7 24 = .ok (.if_icmp .lt 5, 3) := by decide +kernel
theorem d32_29 : decode J7 29 = .ok (.aload_n 0, 1) := by decide +kernel
theorem d32_30 : decode J7 30 = .ok (.iload_n 1, 1) := by decide +kernel
theorem d32_31 : decode J7 31 = .ok (.iload_n 2, 1) := by decide +kernel
theorem d32_32 : decode J7 32 = .ok (.iload_n 3, 1) := by decide +kernel
theorem d32_33 : decode J7 33 = .ok (.invokestatic 95, 3) := by decide +kernel
theorem d32_36 : decode J7 36 = .ok (.ireturn, 1) := by decide +kernel
theorem pd_5 : parseMethodDescriptor "(I)Z" = some ⟨[.int], some .boolean⟩ := by decide +kernel
theorem pd_6 : parseMethodDescriptor "(II)I" = some ⟨[.int, .int], some .int⟩ := by decide +kernel
theorem pd_7 : parseMethodDescriptor "([BIII)I" = some ⟨[(.array .byte), .int, .int, .int], some .int⟩ := by decide +kernel
theorem ef_32 (m : MethodId) (o0 : Addr) (p1 : Int32) (p2 : Int32) (p3 : Int32) : entryFrame m #[(.ref o0), (.int p1), (.int p2), (.int p3)] 4 = mkF m 0 #[.val (.ref o0), .val (.int p1), .val (.int p2), .val (.int p3)] [] := by first | (simp [entryFrame, mkF, argsToLocals, Value.category]; done) | rfl
set_option maxRecDepth 65536 in
set_option maxHeartbeats 40000000 in
theorem cIO4 (l : Launch) (Z : State) (a0 : Array Value) (hw : ∀ d ∈ tables_1, d.before a0 Z = true) (o0 : Addr) (p1 : Int32) (ds : List Int32) (h0 : Heap) (A0 : Own.CA Z h0 o0 .byte (ds.map StrChars.lo8)) (hds : ds.length ≤ 4000) (hp : own_ok p1) (hne : 0 < ds.length) : Own.Con l Z (⟨"java/lang/StringLatin1", "indexOf", "([BIII)I"⟩ : MethodName) jdk_43_method_22_code 4 (some .int) ({ frames := 1, cells := 0, slots := 0, locals := 17 } : Room) #[(.ref o0), (.int p1), (.int 0), (.int (Int32.ofNat ds.length))] h0 (Own.Pure (.int (own_ixl (p1.toInt8.toInt32) (ds.map StrChars.lo8) ds.length 0)) h0) := by
  intro ws
  refine MetFree.of_bodySF (plainFor_of_name pn_3) hisR ?_
  intro p e s m args below meth c s₁ Bd hml0 hP hK
  obtain ⟨rfl, hZ, hh⟩ := hP
  have hx := Bd.exec
  have hby := Bd.bytes
  have D := fun {n : Nat} {i} (d : decode jdk_43_method_22_code n = .ok i) => hb hby d
  have hml : c.maxLocals = 4 := hml0
  have hown : s.vm.findClass "java/lang/StringLatin1" = some m.cls := findClass_of_methodNamed Bd.named
  have hnm := (name_of_methodNamed Bd.named Bd.method).1
  have X0 : Stand p l e ({ frames := 1, cells := 0, slots := 0, locals := 17 } : Room) s m #[(.ref o0), (.int p1), (.int 0), (.int (Int32.ofNat ds.length))] below meth c s₁ [] 0 0 := Stand.of_body Bd
  have e0 : s₁.heap = h0 := by rw [← hh, Bd.state]; rfl
  have K0 : ∀ t, Steps p.tables e below (s₁.setTop (mkF m 0 #[vr o0, vi p1, vi 0, vi (Int32.ofNat ds.length)] [])) t → Steps p.tables e below (s₁.setTop (entryFrame m #[(.ref o0), (.int p1), (.int 0), (.int (Int32.ofNat ds.length))] 4)) t := fun t k => castTop (ef_32 m o0 p1 (0 : Int32) (Int32.ofNat ds.length)) k
  generalize s₁.setTop (entryFrame m #[(.ref o0), (.int p1), (.int 0), (.int (Int32.ofNat ds.length))] 4) = B0 at K0 ⊢
  show Own.Fin p e below B0 s (({ frames := 1, cells := 0, slots := 0, locals := 17 } : Room)).cells (({ frames := 1, cells := 0, slots := 0, locals := 17 } : Room)).slots (Own.Pure (.int (own_ixl (p1.toInt8.toInt32) (ds.map StrChars.lo8) ds.length 0)) h0)
  have K1 : Own.To p e below B0 s₁ (mkF m 1 #[vr o0, vi p1, vi 0, vi (Int32.ofNat ds.length)] [(.int p1)]) := fun t k => K0 t (by
    refine Own.iloadN X0 hx (D d32_0) rfl ?_
    exact k)
  obtain ⟨T2, X2, e2, st2⟩ := Own.callP (Ls := #[vr o0, vi p1, vi 0, vi (Int32.ofNat ds.length)]) X0 hx hZ e0 [(.int p1)] [] (c33 l Z a0 hw p1  h0 ) hown (W_ hw 135 rfl) (W_ hw 136 rfl) (W_ hw 89 rfl) (W_ hw 137 rfl) (by decide) 0 rfl rfl (by decide) (by decide) (by decide) (by decide) (szOf hml rfl) (lenOf pd_5 rfl) rfl (Nat.le_of_eq rfl) (D d32_1)
  have K3 := fun t k => K1 t (st2 t k)
  have K4 : Own.To p e below B0 T2 (mkF m 11 #[vr o0, vi p1, vi 0, vi (Int32.ofNat ds.length)] [(.int 0), (.int 0)]) := fun t k => K3 t (by
    refine Own.ifYes X2 hx 9 (D d32_4) ((if0 _ _).trans (feq (by rw [own_ce hp]; decide : ¬ ((F33 p1) = (0 : Int32)))).2) (by decide) (by decide) ?_
    refine Own.iloadN X2 hx (D d32_9) rfl ?_
    refine Own.iconst X2 hx 0 (D d32_10) rfl ?_
    exact k)
  obtain ⟨T5, X5, e5, st5⟩ := Own.callP (Ls := #[vr o0, vi p1, vi 0, vi (Int32.ofNat ds.length)]) X2 hx hZ e2 [(.int 0), (.int 0)] [] (c34 l Z a0 hw (0 : Int32) (0 : Int32)  h0 ) hown (W_ hw 138 rfl) (W_ hw 139 rfl) (W_ hw 140 rfl) (W_ hw 141 rfl) (by decide) 0 rfl rfl (by decide) (by decide) (by decide) (by decide) (szOf hml rfl) (lenOf pd_6 rfl) rfl (Nat.le_of_eq rfl) (D d32_11)
  have K6 := fun t k => K4 t (st5 t k)
  have K7 : Own.To p e below B0 T5 (mkF m 15 #[vr o0, vi p1, vi (F34 (0 : Int32) (0 : Int32)), vi (Int32.ofNat ds.length)] []) := fun t k => K6 t (by
    refine Own.istoreN X5 hx #[vr o0, vi p1, vi (F34 (0 : Int32) (0 : Int32)), vi (Int32.ofNat ds.length)] (D d32_14) rfl ?_
    exact k)
  rw [show (F34 (0 : Int32) (0 : Int32)) = (0 : Int32) from rfl] at K7
  have K8 : Own.To p e below B0 T5 (mkF m 17 #[vr o0, vi p1, vi 0, vi (Int32.ofNat ds.length)] [(.ref o0), (.int (Int32.ofNat ds.length))]) := fun t k => K7 t (by
    refine Own.iloadN X5 hx (D d32_15) rfl ?_
    refine Own.aloadN X5 hx (D d32_16) rfl rfl ?_
    exact k)
  obtain ⟨cq9, Aq9, lq9⟩ := Own.CA.len A0
  rw [List.length_map] at lq9
  have K10 : Own.To p e below B0 T5 (mkF m 18 #[vr o0, vi p1, vi 0, vi (Int32.ofNat ds.length)] [(.int (Int32.ofNat ds.length)), (.int (Int32.ofNat ds.length))]) := fun t k => K8 t (by
    refine Own.arraylength X5 hx (Int32.ofNat ds.length) hZ e5 Aq9 lq9 (D d32_17) ?_
    exact k)
  obtain ⟨T11, X11, e11, st11⟩ := Own.callP (Ls := #[vr o0, vi p1, vi 0, vi (Int32.ofNat ds.length)]) X5 hx hZ e5 [(.int (Int32.ofNat ds.length)), (.int (Int32.ofNat ds.length))] [] (c35 l Z a0 hw (Int32.ofNat ds.length) (Int32.ofNat ds.length)  h0 ) hown (W_ hw 142 rfl) (W_ hw 143 rfl) (W_ hw 140 rfl) (W_ hw 144 rfl) (by decide) 0 rfl rfl (by decide) (by decide) (by decide) (by decide) (szOf hml rfl) (lenOf pd_6 rfl) rfl (Nat.le_of_eq rfl) (D d32_18)
  have K12 := fun t k => K10 t (st11 t k)
  have K13 : Own.To p e below B0 T11 (mkF m 22 #[vr o0, vi p1, vi 0, vi (F35 (Int32.ofNat ds.length) (Int32.ofNat ds.length))] []) := fun t k => K12 t (by
    refine Own.istoreN X11 hx #[vr o0, vi p1, vi 0, vi (F35 (Int32.ofNat ds.length) (Int32.ofNat ds.length))] (D d32_21) rfl ?_
    exact k)
  rw [show (F35 (Int32.ofNat ds.length) (Int32.ofNat ds.length)) = (Int32.ofNat ds.length) from own_mm _] at K13
  have K14 : Own.To p e below B0 T11 (mkF m 24 #[vr o0, vi p1, vi 0, vi (Int32.ofNat ds.length)] [(.int (Int32.ofNat ds.length)), (.int 0)]) := fun t k => K13 t (by
    refine Own.iloadN X11 hx (D d32_22) rfl ?_
    refine Own.iloadN X11 hx (D d32_23) rfl ?_
    exact k)
  have K15 : Own.To p e below B0 T11 (mkF m 33 #[vr o0, vi p1, vi 0, vi (Int32.ofNat ds.length)] [(.int (Int32.ofNat ds.length)), (.int 0), (.int p1), (.ref o0)]) := fun t k => K14 t (by
    refine Own.icmpYes X11 hx 29 (D d32_24) (tlt ((own_lt (a := 0) (by omega) (by omega)).mpr hne : (0 : Int32) < (Int32.ofNat ds.length))).1 (by decide) (by decide) ?_
    refine Own.aloadN X11 hx (D d32_29) rfl rfl ?_
    refine Own.iloadN X11 hx (D d32_30) rfl ?_
    refine Own.iloadN X11 hx (D d32_31) rfl ?_
    refine Own.iloadN X11 hx (D d32_32) rfl ?_
    exact k)
  obtain ⟨T16, X16, e16, st16⟩ := Own.callP (Ls := #[vr o0, vi p1, vi 0, vi (Int32.ofNat ds.length)]) X11 hx hZ e11 [(.ref o0), (.int p1), (.int 0), (.int (Int32.ofNat ds.length))] [] (cIOC l Z a0 hw o0 p1 ds h0 A0 hds) hown (W_ hw 145 rfl) (W_ hw 146 rfl) (W_ hw 89 rfl) (W_ hw 147 rfl) (by decide) 0 rfl rfl (by decide) (by decide) (by decide) (by decide) (szOf hml rfl) (lenOf pd_7 rfl) rfl (Nat.le_of_eq rfl) (D d32_33)
  have K17 := fun t k => K15 t (st16 t k)
  exact Own.finI X16 hx (BodyLoose.notSynchronized Bd) Bd.returns (D d32_36) K17 (by decide) (by decide) ⟨rfl, rfl, e16⟩

theorem d31_0 : decode J6 0 = .ok (.aload_n 0, 1) := by decide +kernel
theorem d31_1 : decode J6 1 = .ok (.invokevirtual 492, 3) := by decide +kernel
theorem d31_4 : decode J6 4 = .ok (.ifCond .eq 19, 3) := by decide +kernel
theorem d31_7 : decode J6 7 = .ok (.aload_n 0, 1) := by decide +kernel
theorem d31_8 : decode J6 8 = .ok (.getfield 9, 3) := by decide +kernel
theorem d31_11 : decode J6 11 = .ok (.iload_n 1, 1) := by decide +kernel
theorem d31_12 : decode J6 12 = .ok (.iload_n 2, 1) := by decide +kernel
theorem d31_13 : decode J6 13 = .ok (.aload_n 0, 1) := by decide +kernel
theorem d31_14 : decode J6 14 = .ok (.invokevirtual 505, 3) := by decide +kernel
theorem d31_17 : decode J6 17 = .ok (.invokestatic 637, 3) := by decide +kernel
theorem d31_20 : decode J6 20 = .ok (.goto 16, 3) := by decide +kernel
theorem d31_36 : decode J6 36 = .ok (.ireturn, 1) := by decide +kernel
theorem pd_8 : parseMethodDescriptor "()Z" = some ⟨[], some .boolean⟩ := by decide +kernel
theorem pd_9 : parseMethodDescriptor "()I" = some ⟨[], some .int⟩ := by decide +kernel
theorem ef_31 (m : MethodId) (o0 : Addr) (p1 : Int32) (p2 : Int32) : entryFrame m #[(.ref o0), (.int p1), (.int p2)] 3 = mkF m 0 #[.val (.ref o0), .val (.int p1), .val (.int p2)] [] := by first | (simp [entryFrame, mkF, argsToLocals, Value.category]; done) | rfl
set_option maxRecDepth 65536 in
set_option maxHeartbeats 40000000 in
theorem cSI2 (l : Launch) (Z : State) (a0 : Array Value) (hw : ∀ d ∈ tables_1, d.before a0 Z = true) (o0 : Addr) (p1 : Int32) (ds : List Int32) (G1 : Int32) (h0 : Heap) (TX : own_Txt Z h0 o0 ds) (hp : own_ok p1) (hne : 0 < ds.length) (SC : Sta Z h0 "java/lang/String" "COMPACT_STRINGS" "Z" (.int G1)) (hG1 : ¬ G1 = 0) : Own.Con l Z (⟨"java/lang/String", "indexOf", "(II)I"⟩ : MethodName) jdk_42_method_80_code 3 (some .int) ({ frames := 2, cells := 0, slots := 0, locals := 32 } : Room) #[(.ref o0), (.int p1), (.int 0)] h0 (Own.Pure (.int (own_ixl (p1.toInt8.toInt32) (ds.map StrChars.lo8) ds.length 0)) h0) := by
  intro ws
  refine MetFree.of_bodySF (plainFor_of_name pn_0) hisR ?_
  intro p e s m args below meth c s₁ Bd hml0 hP hK
  obtain ⟨rfl, hZ, hh⟩ := hP
  have hx := Bd.exec
  have hby := Bd.bytes
  have D := fun {n : Nat} {i} (d : decode jdk_42_method_80_code n = .ok i) => hb hby d
  have hml : c.maxLocals = 3 := hml0
  have hown : s.vm.findClass "java/lang/String" = some m.cls := findClass_of_methodNamed Bd.named
  have hnm := (name_of_methodNamed Bd.named Bd.method).1
  have X0 : Stand p l e ({ frames := 2, cells := 0, slots := 0, locals := 32 } : Room) s m #[(.ref o0), (.int p1), (.int 0)] below meth c s₁ [] 0 0 := Stand.of_body Bd
  have e0 : s₁.heap = h0 := by rw [← hh, Bd.state]; rfl
  have K0 : ∀ t, Steps p.tables e below (s₁.setTop (mkF m 0 #[vr o0, vi p1, vi 0] [])) t → Steps p.tables e below (s₁.setTop (entryFrame m #[(.ref o0), (.int p1), (.int 0)] 3)) t := fun t k => castTop (ef_31 m o0 p1 (0 : Int32)) k
  generalize s₁.setTop (entryFrame m #[(.ref o0), (.int p1), (.int 0)] 3) = B0 at K0 ⊢
  show Own.Fin p e below B0 s (({ frames := 2, cells := 0, slots := 0, locals := 32 } : Room)).cells (({ frames := 2, cells := 0, slots := 0, locals := 32 } : Room)).slots (Own.Pure (.int (own_ixl (p1.toInt8.toInt32) (ds.map StrChars.lo8) ds.length 0)) h0)
  obtain ⟨t0, E0, F0, F1, A0, hok, hcs⟩ := TX.opn
  have hds := hcs
  have K1 : Own.To p e below B0 s₁ (mkF m 1 #[vr o0, vi p1, vi 0] [(.ref o0)]) := fun t k => K0 t (by
    refine Own.aloadN X0 hx (D d31_0) rfl rfl ?_
    exact k)
  obtain ⟨T2, X2, e2, st2⟩ := Own.callVHO (Ls := #[vr o0, vi p1, vi 0]) X0 hx hZ e0 o0 [] [] (cSIL l Z a0 hw o0 ds G1 h0 TX SC hG1) hown E0 (W_ hw 82 rfl) (W_ hw 83 rfl) (W_ hw 53 rfl) rfl (W_ hw 85 rfl) (W_ hw 84 rfl) (W_ hw 18 rfl) (W_ hw 86 rfl) (by decide) 0 rfl rfl (by decide) (by decide) (by decide) (by decide) (szOf hml rfl) (lenOf pd_8 rfl) rfl (Nat.le_of_eq rfl) (D d31_1)
  have K3 := fun t k => K1 t (st2 t k)
  have K4 : Own.To p e below B0 T2 (mkF m 8 #[vr o0, vi p1, vi 0] [(.ref o0)]) := fun t k => K3 t (by
    refine Own.ifNo X2 hx (D d31_4) ((if0 _ _).trans (feq (by decide : ¬ ((1 : Int32) = (0 : Int32)))).1) ?_
    refine Own.aloadN X2 hx (D d31_7) rfl rfl ?_
    exact k)
  obtain ⟨T5, X5, e5, st5⟩ := Own.getF (Ls := #[vr o0, vi p1, vi 0]) X2 hx hZ e2 hown (host := "") (Or.inl (W_ hw 35 rfl)) Via.refl F0 (S := []) (D d31_8)
  have K6 := fun t k => K4 t (st5 t k)
  have K7 : Own.To p e below B0 T5 (mkF m 14 #[vr o0, vi p1, vi 0] [(.ref o0), (.int 0), (.int p1), (.ref t0)]) := fun t k => K6 t (by
    refine Own.iloadN X5 hx (D d31_11) rfl ?_
    refine Own.iloadN X5 hx (D d31_12) rfl ?_
    refine Own.aloadN X5 hx (D d31_13) rfl rfl ?_
    exact k)
  obtain ⟨T8, X8, e8, st8⟩ := own_lenW (Ls := #[vr o0, vi p1, vi 0]) X5 hx hZ e5 hw (W_ hw 17 rfl) hown TX SC hG1  (W_ hw 131 rfl) (W_ hw 51 rfl) (W_ hw 53 rfl) (W_ hw 52 rfl) [(.int 0), (.int p1), (.ref t0)] 3 (by decide) (by decide) (by decide) (by decide) (by rw [hml]; rfl) (lenOf pd_9 rfl) (Nat.le_of_eq rfl) (D d31_14)
  have K9 := fun t k => K7 t (st8 t k)
  obtain ⟨T10, X10, e10, st10⟩ := Own.callP (Ls := #[vr o0, vi p1, vi 0]) X8 hx hZ e8 [(.ref t0), (.int p1), (.int 0), (.int (Int32.ofNat ds.length))] [] (cIO4 l Z a0 hw t0 p1 ds h0 A0 hds hp hne) hown (W_ hw 132 rfl) (W_ hw 133 rfl) (W_ hw 89 rfl) (W_ hw 134 rfl) (by decide) 0 rfl rfl (by decide) (by decide) (by decide) (by decide) (szOf hml rfl) (lenOf pd_7 rfl) rfl (Nat.le_of_eq rfl) (D d31_17)
  have K11 := fun t k => K9 t (st10 t k)
  have K12 : Own.To p e below B0 T10 (mkF m 36 #[vr o0, vi p1, vi 0] [(.int (own_ixl (p1.toInt8.toInt32) (ds.map StrChars.lo8) ds.length 0))]) := fun t k => K11 t (by
    refine Own.goto X10 hx 36 (D d31_20) (by decide) (by decide) ?_
    exact k)
  exact Own.finI X10 hx (BodyLoose.notSynchronized Bd) Bd.returns (D d31_36) K12 (by decide) (by decide) ⟨rfl, rfl, e10⟩

theorem d30_0 : decode J5 0 = .ok (.aload_n 0, 1) := by decide +kernel
theorem d30_1 : decode J5 1 = .ok (.iload_n 1, 1) := by decide +kernel
theorem d30_2 : decode J5 2 = .ok (.iconst 0, 1) := by decide +kernel
theorem d30_3 : decode J5 3 = .ok (.invokevirtual 633, 3) := by decide +kernel
theorem d30_6 : decode J5 6 = .ok (.ireturn, 1) := by decide +kernel
theorem ef_30 (m : MethodId) (o0 : Addr) (p1 : Int32) : entryFrame m #[(.ref o0), (.int p1)] 2 = mkF m 0 #[.val (.ref o0), .val (.int p1)] [] := by first | (simp [entryFrame, mkF, argsToLocals, Value.category]; done) | rfl
set_option maxRecDepth 65536 in
set_option maxHeartbeats 40000000 in
theorem cSI1 (l : Launch) (Z : State) (a0 : Array Value) (hw : ∀ d ∈ tables_1, d.before a0 Z = true) (o0 : Addr) (p1 : Int32) (ds : List Int32) (G1 : Int32) (h0 : Heap) (TX : own_Txt Z h0 o0 ds) (hp : own_ok p1) (hne : 0 < ds.length) (SC : Sta Z h0 "java/lang/String" "COMPACT_STRINGS" "Z" (.int G1)) (hG1 : ¬ G1 = 0) : Own.Con l Z (⟨"java/lang/String", "indexOf", "(I)I"⟩ : MethodName) jdk_42_method_79_code 2 (some .int) ({ frames := 3, cells := 0, slots := 0, locals := 46 } : Room) #[(.ref o0), (.int p1)] h0 (Own.Pure (.int (own_ixl (p1.toInt8.toInt32) (ds.map StrChars.lo8) ds.length 0)) h0) := by
  intro ws
  refine MetFree.of_bodySF (plainFor_of_name pn_0) hisR ?_
  intro p e s m args below meth c s₁ Bd hml0 hP hK
  obtain ⟨rfl, hZ, hh⟩ := hP
  have hx := Bd.exec
  have hby := Bd.bytes
  have D := fun {n : Nat} {i} (d : decode jdk_42_method_79_code n = .ok i) => hb hby d
  have hml : c.maxLocals = 2 := hml0
  have hown : s.vm.findClass "java/lang/String" = some m.cls := findClass_of_methodNamed Bd.named
  have hnm := (name_of_methodNamed Bd.named Bd.method).1
  have X0 : Stand p l e ({ frames := 3, cells := 0, slots := 0, locals := 46 } : Room) s m #[(.ref o0), (.int p1)] below meth c s₁ [] 0 0 := Stand.of_body Bd
  have e0 : s₁.heap = h0 := by rw [← hh, Bd.state]; rfl
  have K0 : ∀ t, Steps p.tables e below (s₁.setTop (mkF m 0 #[vr o0, vi p1] [])) t → Steps p.tables e below (s₁.setTop (entryFrame m #[(.ref o0), (.int p1)] 2)) t := fun t k => castTop (ef_30 m o0 p1) k
  generalize s₁.setTop (entryFrame m #[(.ref o0), (.int p1)] 2) = B0 at K0 ⊢
  show Own.Fin p e below B0 s (({ frames := 3, cells := 0, slots := 0, locals := 46 } : Room)).cells (({ frames := 3, cells := 0, slots := 0, locals := 46 } : Room)).slots (Own.Pure (.int (own_ixl (p1.toInt8.toInt32) (ds.map StrChars.lo8) ds.length 0)) h0)
  have K1 : Own.To p e below B0 s₁ (mkF m 3 #[vr o0, vi p1] [(.int 0), (.int p1), (.ref o0)]) := fun t k => K0 t (by
    refine Own.aloadN X0 hx (D d30_0) rfl rfl ?_
    refine Own.iloadN X0 hx (D d30_1) rfl ?_
    refine Own.iconst X0 hx 0 (D d30_2) rfl ?_
    exact k)
  obtain ⟨T2, X2, e2, st2⟩ := Own.callVHO (Ls := #[vr o0, vi p1]) X0 hx hZ e0 o0 [(.int p1), (.int 0)] [] (cSI2 l Z a0 hw o0 p1 ds G1 h0 TX hp hne SC hG1) hown TX.exa (W_ hw 126 rfl) (W_ hw 127 rfl) (W_ hw 53 rfl) rfl (W_ hw 129 rfl) (W_ hw 128 rfl) (W_ hw 18 rfl) (W_ hw 130 rfl) (by decide) 0 rfl rfl (by decide) (by decide) (by decide) (by decide) (szOf hml rfl) (lenOf pd_6 rfl) rfl (Nat.le_of_eq rfl) (D d30_3)
  have K3 := fun t k => K1 t (st2 t k)
  exact Own.finI X2 hx (BodyLoose.notSynchronized Bd) Bd.returns (D d30_6) K3 (by decide) (by decide) ⟨rfl, rfl, e2⟩

theorem d26_0 : decode J32 0 = .ok (.iload_n 0, 1) := by decide +kernel
theorem d26_1 : decode J32 1 = .ok (.invokestatic 33, 3) := by decide +kernel
theorem d26_4 : decode J32 4 = .ok (.ifCond .ne 11, 3) := by decide +kernel
theorem d26_7 : decode J32 7 = .ok (.aload_n 1, 1) := by decide +kernel
theorem d26_8 : decode J32 8 = .ok (.iload_n 0, 1) := by decide +kernel
theorem d26_9 : decode J32 9 = .ok (.invokevirtual 57, 3) := by decide +kernel
theorem d26_12 : decode J32 12 = .ok (.ifCond .lt 7, 3) := by decide +kernel
theorem d26_15 : decode J32 15 = .ok (.iconst 1, 1) := by decide +kernel
theorem d26_16 : decode J32 16 = .ok (.goto 4, 3) := by decide +kernel
theorem d26_19 : decode J32 19 = .ok (.iconst 0, 1) := by decide +kernel
theorem d26_20 : decode J32 20 = .ok (.ireturn, 1) := by decide +kernel
theorem pd_10 : parseMethodDescriptor "(I)I" = some ⟨[.int], some .int⟩ := by decide +kernel
theorem ef_26 (m : MethodId) (p0 : Int32) (o1 : Addr) : entryFrame m #[(.int p0), (.ref o1)] 2 = mkF m 0 #[.val (.int p0), .val (.ref o1)] [] := by first | (simp [entryFrame, mkF, argsToLocals, Value.category]; done) | rfl
def own_ldo (p0 : Int32) (ds : List Int32) : Int32 := (nar .boolean (if (F23 p0) = (0 : Int32) then (if (own_ixl (p0.toInt8.toInt32) (ds.map StrChars.lo8) ds.length 0) < (0 : Int32) then (0 : Int32) else (1 : Int32)) else (1 : Int32)))
set_option maxRecDepth 65536 in
set_option maxHeartbeats 40000000 in
theorem cLDO (l : Launch) (Z : State) (a0 : Array Value) (hw : ∀ d ∈ tables_1, d.before a0 Z = true) (p0 : Int32) (o1 : Addr) (ds : List Int32) (G1 : Int32) (h0 : Heap) (TX : own_Txt Z h0 o1 ds) (hp : own_ok p0) (hne : 0 < ds.length) (SC : Sta Z h0 "java/lang/String" "COMPACT_STRINGS" "Z" (.int G1)) (hG1 : ¬ G1 = 0) : Own.Con l Z (⟨"com/example/pliktflow/pliktflow/deposit/MediaType", "isLetterDigitOr", "(CLjava/lang/String;)Z"⟩ : MethodName) prog_22_method_9_code 2 (some .boolean) ({ frames := 4, cells := 0, slots := 0, locals := 59 } : Room) #[(.int p0), (.ref o1)] h0 (Own.Pure (.int (own_ldo p0 ds)) h0) := by
  intro ws
  refine MetFree.of_bodySF (plainFor_of_name pn_2) hisR ?_
  intro p e s m args below meth c s₁ Bd hml0 hP hK
  obtain ⟨rfl, hZ, hh⟩ := hP
  have hx := Bd.exec
  have hby := Bd.bytes
  have D := fun {n : Nat} {i} (d : decode prog_22_method_9_code n = .ok i) => hb hby d
  have hml : c.maxLocals = 2 := hml0
  have hown : s.vm.findClass "com/example/pliktflow/pliktflow/deposit/MediaType" = some m.cls := findClass_of_methodNamed Bd.named
  have hnm := (name_of_methodNamed Bd.named Bd.method).1
  have X0 : Stand p l e ({ frames := 4, cells := 0, slots := 0, locals := 59 } : Room) s m #[(.int p0), (.ref o1)] below meth c s₁ [] 0 0 := Stand.of_body Bd
  have e0 : s₁.heap = h0 := by rw [← hh, Bd.state]; rfl
  have K0 : ∀ t, Steps p.tables e below (s₁.setTop (mkF m 0 #[vi p0, vr o1] [])) t → Steps p.tables e below (s₁.setTop (entryFrame m #[(.int p0), (.ref o1)] 2)) t := fun t k => castTop (ef_26 m p0 o1) k
  generalize s₁.setTop (entryFrame m #[(.int p0), (.ref o1)] 2) = B0 at K0 ⊢
  show Own.Fin p e below B0 s (({ frames := 4, cells := 0, slots := 0, locals := 59 } : Room)).cells (({ frames := 4, cells := 0, slots := 0, locals := 59 } : Room)).slots (Own.Pure (.int (own_ldo p0 ds)) h0)
  have K1 : Own.To p e below B0 s₁ (mkF m 1 #[vi p0, vr o1] [(.int p0)]) := fun t k => K0 t (by
    refine Own.iloadN X0 hx (D d26_0) rfl ?_
    exact k)
  obtain ⟨T2, X2, e2, st2⟩ := Own.callP (Ls := #[vi p0, vr o1]) X0 hx hZ e0 [(.int p0)] [] (c23 l Z a0 hw p0  h0 ) hown (W_ hw 99 rfl) (W_ hw 100 rfl) (W_ hw 45 rfl) (W_ hw 101 rfl) (by decide) 0 rfl rfl (by decide) (by decide) (by decide) (by decide) (szOf hml rfl) (lenOf pd_3 rfl) rfl (Nat.le_of_eq rfl) (D d26_1)
  have K3 := fun t k => K1 t (st2 t k)
  obtain ⟨x14, hx14⟩ : ∃ z : Int32, z = (if (F23 p0) = (0 : Int32) then (if (own_ixl (p0.toInt8.toInt32) (ds.map StrChars.lo8) ds.length 0) < (0 : Int32) then (0 : Int32) else (1 : Int32)) else (1 : Int32)) := ⟨_, rfl⟩
  obtain ⟨T15, X15, e15, K15⟩ : ∃ T' : State, Stand p l e ({ frames := 4, cells := 0, slots := 0, locals := 59 } : Room) s m #[(.int p0), (.ref o1)] below meth c T' [] 0 0 ∧ T'.heap = h0 ∧ Own.To p e below B0 T' (mkF m 20 #[vi p0, vr o1] [(.int x14)]) := by
    by_cases hc4 : (F23 p0) = (0 : Int32)
    · have K5 : Own.To p e below B0 T2 (mkF m 9 #[vi p0, vr o1] [(.int p0), (.ref o1)]) := fun t k => K3 t (by
        refine Own.ifNo X2 hx (D d26_4) ((if0 _ _).trans (teq hc4).2) ?_
        refine Own.aloadN X2 hx (D d26_7) rfl rfl ?_
        refine Own.iloadN X2 hx (D d26_8) rfl ?_
        exact k)
      obtain ⟨T6, X6, e6, st6⟩ := Own.callVHO (Ls := #[vi p0, vr o1]) X2 hx hZ e2 o1 [(.int p0)] [] (cSI1 l Z a0 hw o1 p0 ds G1 h0 TX hp hne SC hG1) hown TX.exa (W_ hw 121 rfl) (W_ hw 122 rfl) (W_ hw 53 rfl) rfl (W_ hw 124 rfl) (W_ hw 123 rfl) (W_ hw 18 rfl) (W_ hw 125 rfl) (by decide) 0 rfl rfl (by decide) (by decide) (by decide) (by decide) (szOf hml rfl) (lenOf pd_10 rfl) rfl (Nat.le_of_eq rfl) (D d26_9)
      have K7 := fun t k => K5 t (st6 t k)
      obtain ⟨x11, hx11⟩ : ∃ z : Int32, z = (if (own_ixl (p0.toInt8.toInt32) (ds.map StrChars.lo8) ds.length 0) < (0 : Int32) then (0 : Int32) else (1 : Int32)) := ⟨_, rfl⟩
      obtain ⟨T12, X12, e12, K12⟩ : ∃ T' : State, Stand p l e ({ frames := 4, cells := 0, slots := 0, locals := 59 } : Room) s m #[(.int p0), (.ref o1)] below meth c T' [] 0 0 ∧ T'.heap = h0 ∧ Own.To p e below B0 T' (mkF m 20 #[vi p0, vr o1] [(.int x11)]) := by
        by_cases hc8 : (own_ixl (p0.toInt8.toInt32) (ds.map StrChars.lo8) ds.length 0) < (0 : Int32)
        · have K9 : Own.To p e below B0 T6 (mkF m 20 #[vi p0, vr o1] [(.int 0)]) := fun t k => K7 t (by
            refine Own.ifYes X6 hx 19 (D d26_12) ((if0 _ _).trans (tlt hc8).1) (by decide) (by decide) ?_
            refine Own.iconst X6 hx 0 (D d26_19) rfl ?_
            exact k)
          exact ⟨T6, X6, e6, fun t k => K9 t (by rw [hx11, if_pos hc8] at k; exact k)⟩
        · have K10 : Own.To p e below B0 T6 (mkF m 20 #[vi p0, vr o1] [(.int 1)]) := fun t k => K7 t (by
            refine Own.ifNo X6 hx (D d26_12) ((if0 _ _).trans (flt hc8).1) ?_
            refine Own.iconst X6 hx 1 (D d26_15) rfl ?_
            refine Own.goto X6 hx 20 (D d26_16) (by decide) (by decide) ?_
            exact k)
          exact ⟨T6, X6, e6, fun t k => K10 t (by rw [hx11, if_neg hc8] at k; exact k)⟩
      exact ⟨T12, X12, e12, fun t k => K12 t (by subst hx11; rw [hx14, if_pos hc4] at k; exact k)⟩
    · have K13 : Own.To p e below B0 T2 (mkF m 20 #[vi p0, vr o1] [(.int 1)]) := fun t k => K3 t (by
        refine Own.ifYes X2 hx 15 (D d26_4) ((if0 _ _).trans (feq hc4).2) (by decide) (by decide) ?_
        refine Own.iconst X2 hx 1 (D d26_15) rfl ?_
        refine Own.goto X2 hx 20 (D d26_16) (by decide) (by decide) ?_
        exact k)
      exact ⟨T2, X2, e2, fun t k => K13 t (by rw [hx14, if_neg hc4] at k; exact k)⟩
  exact Own.finN X15 hx (BodyLoose.notSynchronized Bd) Bd.returns (by simp) (D d26_20) K15 (by decide) (by decide) ⟨by subst hx14; unfold own_ldo; rfl, rfl, e15⟩

def own_nm (c : Int32) : Int32 := own_ldo c [(33 : Int32), (35 : Int32), (36 : Int32), (38 : Int32), (94 : Int32), (95 : Int32), (46 : Int32), (43 : Int32), (45 : Int32)]
def own_tk (c : Int32) : Int32 := own_ldo c [(33 : Int32), (35 : Int32), (36 : Int32), (37 : Int32), (38 : Int32), (39 : Int32), (42 : Int32), (43 : Int32), (46 : Int32), (94 : Int32), (95 : Int32), (96 : Int32), (124 : Int32), (126 : Int32), (45 : Int32)]

theorem d24_0 : decode J31 0 = .ok (.iload_n 1, 1) := by decide +kernel
theorem d24_1 : decode J31 1 = .ok (.aload_n 0, 1) := by decide +kernel
theorem d24_2 : decode J31 2 = .ok (.invokevirtual 17, 3) := by decide +kernel
theorem d24_5 : decode J31 5 = .ok (.if_icmp .ge 16, 3) := by decide +kernel
theorem d24_8 : decode J31 8 = .ok (.aload_n 0, 1) := by decide +kernel
theorem d24_9 : decode J31 9 = .ok (.iload_n 1, 1) := by decide +kernel
theorem d24_10 : decode J31 10 = .ok (.invokevirtual 26, 3) := by decide +kernel
theorem d24_13 : decode J31 13 = .ok (.iload_n 2, 1) := by decide +kernel
theorem d24_14 : decode J31 14 = .ok (.if_icmp .ne 7, 3) := by decide +kernel
theorem d24_17 : decode J31 17 = .ok (.iconst 1, 1) := by decide +kernel
theorem d24_18 : decode J31 18 = .ok (.goto 4, 3) := by decide +kernel
theorem d24_21 : decode J31 21 = .ok (.iconst 0, 1) := by decide +kernel
theorem d24_22 : decode J31 22 = .ok (.ireturn, 1) := by decide +kernel
theorem ef_24 (m : MethodId) (o0 : Addr) (p1 : Int32) (p2 : Int32) : entryFrame m #[(.ref o0), (.int p1), (.int p2)] 3 = mkF m 0 #[.val (.ref o0), .val (.int p1), .val (.int p2)] [] := by first | (simp [entryFrame, mkF, argsToLocals, Value.category]; done) | rfl
set_option maxRecDepth 65536 in
set_option maxHeartbeats 40000000 in
theorem cAT (l : Launch) (Z : State) (a0 : Array Value) (hw : ∀ d ∈ tables_1, d.before a0 Z = true) (o0 : Addr) (p2 : Int32) (i : Nat) (cs : List Int32) (G1 : Int32) (G3 : Value) (h0 : Heap) (TX : own_Txt Z h0 o0 cs) (SC : Sta Z h0 "java/lang/String" "COMPACT_STRINGS" "Z" (.int G1)) (hG1 : ¬ G1 = 0) (SF : Sta Z h0 "jdk/internal/util/Preconditions" "SIOOBE_FORMATTER" "Ljava/util/function/BiFunction;" G3) (rG3 : G3.isRef = true) (hi : i ≤ cs.length + 1) : Own.Con l Z (⟨"com/example/pliktflow/pliktflow/deposit/MediaType", "isAt", "(Ljava/lang/String;IC)Z"⟩ : MethodName) prog_22_method_8_code 3 (some .boolean) ({ frames := 4, cells := 0, slots := 0, locals := 53 } : Room) #[(.ref o0), (.int (Int32.ofNat i)), (.int p2)] h0 (Own.Pure (.int (own_at cs i p2)) h0) := by
  intro ws
  refine MetFree.of_bodySF (plainFor_of_name pn_2) hisR ?_
  intro p e s m args below meth c s₁ Bd hml0 hP hK
  obtain ⟨rfl, hZ, hh⟩ := hP
  have hx := Bd.exec
  have hby := Bd.bytes
  have D := fun {n : Nat} {i} (d : decode prog_22_method_8_code n = .ok i) => hb hby d
  have hml : c.maxLocals = 3 := hml0
  have hown : s.vm.findClass "com/example/pliktflow/pliktflow/deposit/MediaType" = some m.cls := findClass_of_methodNamed Bd.named
  have hnm := (name_of_methodNamed Bd.named Bd.method).1
  have X0 : Stand p l e ({ frames := 4, cells := 0, slots := 0, locals := 53 } : Room) s m #[(.ref o0), (.int (Int32.ofNat i)), (.int p2)] below meth c s₁ [] 0 0 := Stand.of_body Bd
  have e0 : s₁.heap = h0 := by rw [← hh, Bd.state]; rfl
  have K0 : ∀ t, Steps p.tables e below (s₁.setTop (mkF m 0 #[vr o0, vi (Int32.ofNat i), vi p2] [])) t → Steps p.tables e below (s₁.setTop (entryFrame m #[(.ref o0), (.int (Int32.ofNat i)), (.int p2)] 3)) t := fun t k => castTop (ef_24 m o0 (Int32.ofNat i) p2) k
  generalize s₁.setTop (entryFrame m #[(.ref o0), (.int (Int32.ofNat i)), (.int p2)] 3) = B0 at K0 ⊢
  show Own.Fin p e below B0 s (({ frames := 4, cells := 0, slots := 0, locals := 53 } : Room)).cells (({ frames := 4, cells := 0, slots := 0, locals := 53 } : Room)).slots (Own.Pure (.int (own_at cs i p2)) h0)
  have hcl := own_Txt.len TX
  have hok := own_Txt.ok TX
  have K1 : Own.To p e below B0 s₁ (mkF m 2 #[vr o0, vi (Int32.ofNat i), vi p2] [(.ref o0), (.int (Int32.ofNat i))]) := fun t k => K0 t (by
    refine Own.iloadN X0 hx (D d24_0) rfl ?_
    refine Own.aloadN X0 hx (D d24_1) rfl rfl ?_
    exact k)
  obtain ⟨T2, X2, e2, st2⟩ := own_lenW (Ls := #[vr o0, vi (Int32.ofNat i), vi p2]) X0 hx hZ e0 hw (W_ hw 17 rfl) hown TX SC hG1  (W_ hw 50 rfl) (W_ hw 51 rfl) (W_ hw 53 rfl) (W_ hw 52 rfl) [(.int (Int32.ofNat i))] 1 (by decide) (by decide) (by decide) (by decide) (by rw [hml]; rfl) (lenOf pd_9 rfl) (Nat.le_of_eq rfl) (D d24_2)
  have K3 := fun t k => K1 t (st2 t k)
  by_cases hc4 : (Int32.ofNat i) < (Int32.ofNat cs.length)
  · have K5 : Own.To p e below B0 T2 (mkF m 10 #[vr o0, vi (Int32.ofNat i), vi p2] [(.int (Int32.ofNat i)), (.ref o0)]) := fun t k => K3 t (by
      refine Own.icmpNo X2 hx (D d24_5) (tlt hc4).2.1 ?_
      refine Own.aloadN X2 hx (D d24_8) rfl rfl ?_
      refine Own.iloadN X2 hx (D d24_9) rfl ?_
      exact k)
    obtain ⟨T6, X6, e6, st6⟩ := own_chN (Ls := #[vr o0, vi (Int32.ofNat i), vi p2]) X2 hx hZ e2 hw (W_ hw 17 rfl) hown TX SC hG1 SF rG3 (i := i) (j := (Int32.ofNat i)) ((own_lt (by omega) (by omega)).mp hc4) rfl (W_ hw 77 rfl) (W_ hw 78 rfl) (W_ hw 80 rfl) (W_ hw 79 rfl) [] 0 (by decide) (by decide) (by decide) (by decide) (by rw [hml]; rfl) (lenOf pd_1 rfl) (Nat.le_of_eq rfl) (D d24_10)
    have K7 := fun t k => K5 t (st6 t k)
    have K8 : Own.To p e below B0 T6 (mkF m 14 #[vr o0, vi (Int32.ofNat i), vi p2] [(.int p2), (.int (cs.getD i 0))]) := fun t k => K7 t (by
      refine Own.iloadN X6 hx (D d24_13) rfl ?_
      exact k)
    by_cases hc9 : (cs.getD i 0) = p2
    · have K10 : Own.To p e below B0 T6 (mkF m 22 #[vr o0, vi (Int32.ofNat i), vi p2] [(.int 1)]) := fun t k => K8 t (by
        refine Own.icmpNo X6 hx (D d24_14) (teq hc9).2 ?_
        refine Own.iconst X6 hx 1 (D d24_17) rfl ?_
        refine Own.goto X6 hx 22 (D d24_18) (by decide) (by decide) ?_
        exact k)
      exact Own.finN X6 hx (BodyLoose.notSynchronized Bd) Bd.returns (by simp) (D d24_22) K10 (by decide) (by decide) ⟨by rw [own_at_p (cs := cs) (i := i) (c := p2) ⟨(own_lt (by omega) (by omega)).mp hc4, hc9⟩]; rfl, rfl, e6⟩
    · have K11 : Own.To p e below B0 T6 (mkF m 22 #[vr o0, vi (Int32.ofNat i), vi p2] [(.int 0)]) := fun t k => K8 t (by
        refine Own.icmpYes X6 hx 21 (D d24_14) (feq hc9).2 (by decide) (by decide) ?_
        refine Own.iconst X6 hx 0 (D d24_21) rfl ?_
        exact k)
      exact Own.finN X6 hx (BodyLoose.notSynchronized Bd) Bd.returns (by simp) (D d24_22) K11 (by decide) (by decide) ⟨by rw [own_at_n (cs := cs) (i := i) (c := p2) (fun q => hc9 q.2)]; rfl, rfl, e6⟩
  · have K12 : Own.To p e below B0 T2 (mkF m 22 #[vr o0, vi (Int32.ofNat i), vi p2] [(.int 0)]) := fun t k => K3 t (by
      refine Own.icmpYes X2 hx 21 (D d24_5) (flt hc4).2.1 (by decide) (by decide) ?_
      refine Own.iconst X2 hx 0 (D d24_21) rfl ?_
      exact k)
    exact Own.finN X2 hx (BodyLoose.notSynchronized Bd) Bd.returns (by simp) (D d24_22) K12 (by decide) (by decide) ⟨by rw [own_at_n (cs := cs) (i := i) (c := p2) (fun q => hc4 ((own_lt (by omega) (by omega)).mpr q.1))]; rfl, rfl, e2⟩

theorem d37_0 : decode J30 0 = .ok (.iload_n 1, 1) := by decide +kernel
theorem d37_1 : decode J30 1 = .ok (.istore_n 2, 1) := by decide +kernel
theorem d37_2 : decode J30 2 = .ok (.iload_n 2, 1) := by decide +kernel
theorem d37_3 : decode J30 3 = .ok (.aload_n 0, 1) := by decide +kernel
theorem d37_4 : decode J30 4 = .ok (.invokevirtual 17, 3) := by decide +kernel
theorem d37_7 : decode J30 7 = .ok (.if_icmp .ge 20, 3) := by decide +kernel
theorem d37_10 : decode J30 10 = .ok (.aload_n 0, 1) := by decide +kernel
theorem d37_11 : decode J30 11 = .ok (.iload_n 2, 1) := by decide +kernel
theorem d37_12 : decode J30 12 = .ok (.invokevirtual 26, 3) := by decide +kernel
theorem d37_15 : decode J30 15 = .ok (.invokestatic 54, 3) := by decide +kernel
theorem d37_18 : decode J30 18 = .ok (.ifCond .eq 9, 3) := by decide +kernel
theorem d37_21 : decode J30 21 = .ok (.iinc 2 1, 3) := by decide +kernel
theorem d37_24 : decode J30 24 = .ok (.goto (-22), 3) := by decide +kernel
theorem d37_27 : decode J30 27 = .ok (.iload_n 2, 1) := by decide +kernel
theorem d37_28 : decode J30 28 = .ok (.ireturn, 1) := by decide +kernel
theorem ef_37 (m : MethodId) (o0 : Addr) (p1 : Int32) : entryFrame m #[(.ref o0), (.int p1)] 3 = mkF m 0 #[.val (.ref o0), .val (.int p1), .unset] [] := by first | (simp [entryFrame, mkF, argsToLocals, Value.category]; done) | rfl
set_option maxRecDepth 65536 in
set_option maxHeartbeats 40000000 in
theorem cWSE (l : Launch) (Z : State) (a0 : Array Value) (hw : ∀ d ∈ tables_1, d.before a0 Z = true) (o0 : Addr) (i : Nat) (cs : List Int32) (G1 : Int32) (G3 : Value) (h0 : Heap) (TX : own_Txt Z h0 o0 cs) (SC : Sta Z h0 "java/lang/String" "COMPACT_STRINGS" "Z" (.int G1)) (hG1 : ¬ G1 = 0) (SF : Sta Z h0 "jdk/internal/util/Preconditions" "SIOOBE_FORMATTER" "Ljava/util/function/BiFunction;" G3) (rG3 : G3.isRef = true) (hi : i ≤ cs.length) : Own.Con l Z (⟨"com/example/pliktflow/pliktflow/deposit/MediaType", "whiteSpaceEnd", "(Ljava/lang/String;I)I"⟩ : MethodName) prog_22_method_7_code 3 (some .int) ({ frames := 4, cells := 0, slots := 0, locals := 53 } : Room) #[(.ref o0), (.int (Int32.ofNat i))] h0 (Own.Pure (.int (Int32.ofNat (own_E F38 cs i))) h0) := by
  intro ws
  refine MetFree.of_bodySF (plainFor_of_name pn_2) hisR ?_
  intro p e s m args below meth c s₁ Bd hml0 hP hK
  obtain ⟨rfl, hZ, hh⟩ := hP
  have hx := Bd.exec
  have hby := Bd.bytes
  have D := fun {n : Nat} {i} (d : decode prog_22_method_7_code n = .ok i) => hb hby d
  have hml : c.maxLocals = 3 := hml0
  have hown : s.vm.findClass "com/example/pliktflow/pliktflow/deposit/MediaType" = some m.cls := findClass_of_methodNamed Bd.named
  have hnm := (name_of_methodNamed Bd.named Bd.method).1
  have X0 : Stand p l e ({ frames := 4, cells := 0, slots := 0, locals := 53 } : Room) s m #[(.ref o0), (.int (Int32.ofNat i))] below meth c s₁ [] 0 0 := Stand.of_body Bd
  have e0 : s₁.heap = h0 := by rw [← hh, Bd.state]; rfl
  have K0 : ∀ t, Steps p.tables e below (s₁.setTop (mkF m 0 #[vr o0, vi (Int32.ofNat i), .unset] [])) t → Steps p.tables e below (s₁.setTop (entryFrame m #[(.ref o0), (.int (Int32.ofNat i))] 3)) t := fun t k => castTop (ef_37 m o0 (Int32.ofNat i)) k
  generalize s₁.setTop (entryFrame m #[(.ref o0), (.int (Int32.ofNat i))] 3) = B0 at K0 ⊢
  show Own.Fin p e below B0 s (({ frames := 4, cells := 0, slots := 0, locals := 53 } : Room)).cells (({ frames := 4, cells := 0, slots := 0, locals := 53 } : Room)).slots (Own.Pure (.int (Int32.ofNat (own_E F38 cs i))) h0)
  have hcl := own_Txt.len TX
  have hok := own_Txt.ok TX
  have K1 : Own.To p e below B0 s₁ (mkF m 2 #[vr o0, vi (Int32.ofNat i), vi (Int32.ofNat i)] []) := fun t k => K0 t (by
    refine Own.iloadN X0 hx (D d37_0) rfl ?_
    refine Own.istoreN X0 hx #[vr o0, vi (Int32.ofNat i), vi (Int32.ofNat i)] (D d37_1) rfl ?_
    exact k)
  have loop : ∀ (n : Nat) (a : Nat) (T : State), a + n = cs.length → own_E F38 cs i = own_run F38 cs n a → Stand p l e ({ frames := 4, cells := 0, slots := 0, locals := 53 } : Room) s m #[(.ref o0), (.int (Int32.ofNat i))] below meth c T [] 0 0 → T.heap = h0 → (∀ t, Steps p.tables e below (T.setTop (mkF m 2 #[vr o0, vi (Int32.ofNat i), vi (Int32.ofNat a)] [])) t → Steps p.tables e below B0 t) → Own.Fin p e below B0 s (({ frames := 4, cells := 0, slots := 0, locals := 53 } : Room)).cells (({ frames := 4, cells := 0, slots := 0, locals := 53 } : Room)).slots (Own.Pure (.int (Int32.ofNat (own_E F38 cs i))) h0) := by
    intro n
    induction n with
    | zero =>
      intro a T ha hR X eT K
      have K2 : Own.To p e below B0 T (mkF m 4 #[vr o0, vi (Int32.ofNat i), vi (Int32.ofNat a)] [(.ref o0), (.int (Int32.ofNat a))]) := fun t k => K t (by
        refine Own.iloadN X hx (D d37_2) rfl ?_
        refine Own.aloadN X hx (D d37_3) rfl rfl ?_
        exact k)
      obtain ⟨T3, X3, e3, st3⟩ := own_lenW (Ls := #[vr o0, vi (Int32.ofNat i), vi (Int32.ofNat a)]) X hx hZ eT hw (W_ hw 17 rfl) hown TX SC hG1  (W_ hw 50 rfl) (W_ hw 51 rfl) (W_ hw 53 rfl) (W_ hw 52 rfl) [(.int (Int32.ofNat a))] 1 (by decide) (by decide) (by decide) (by decide) (by rw [hml]; rfl) (lenOf pd_9 rfl) (Nat.le_of_eq rfl) (D d37_4)
      have K4 := fun t k => K2 t (st3 t k)
      have K5 : Own.To p e below B0 T3 (mkF m 28 #[vr o0, vi (Int32.ofNat i), vi (Int32.ofNat a)] [(.int (Int32.ofNat a))]) := fun t k => K4 t (by
        refine Own.icmpYes X3 hx 27 (D d37_7) (flt (fun q => absurd ((own_lt (by omega) (by omega)).mp q) (by omega) : ¬ ((Int32.ofNat a) < (Int32.ofNat cs.length)))).2.1 (by decide) (by decide) ?_
        refine Own.iloadN X3 hx (D d37_27) rfl ?_
        exact k)
      exact Own.finI X3 hx (BodyLoose.notSynchronized Bd) Bd.returns (D d37_28) K5 (by decide) (by decide) ⟨by rw [hR]; rfl, rfl, e3⟩
    | succ n ih =>
      intro a T ha hR X eT K
      have K6 : Own.To p e below B0 T (mkF m 4 #[vr o0, vi (Int32.ofNat i), vi (Int32.ofNat a)] [(.ref o0), (.int (Int32.ofNat a))]) := fun t k => K t (by
        refine Own.iloadN X hx (D d37_2) rfl ?_
        refine Own.aloadN X hx (D d37_3) rfl rfl ?_
        exact k)
      obtain ⟨T7, X7, e7, st7⟩ := own_lenW (Ls := #[vr o0, vi (Int32.ofNat i), vi (Int32.ofNat a)]) X hx hZ eT hw (W_ hw 17 rfl) hown TX SC hG1  (W_ hw 50 rfl) (W_ hw 51 rfl) (W_ hw 53 rfl) (W_ hw 52 rfl) [(.int (Int32.ofNat a))] 1 (by decide) (by decide) (by decide) (by decide) (by rw [hml]; rfl) (lenOf pd_9 rfl) (Nat.le_of_eq rfl) (D d37_4)
      have K8 := fun t k => K6 t (st7 t k)
      have K9 : Own.To p e below B0 T7 (mkF m 12 #[vr o0, vi (Int32.ofNat i), vi (Int32.ofNat a)] [(.int (Int32.ofNat a)), (.ref o0)]) := fun t k => K8 t (by
        refine Own.icmpNo X7 hx (D d37_7) (tlt ((own_lt (by omega) (by omega)).mpr (by omega) : (Int32.ofNat a) < (Int32.ofNat cs.length))).2.1 ?_
        refine Own.aloadN X7 hx (D d37_10) rfl rfl ?_
        refine Own.iloadN X7 hx (D d37_11) rfl ?_
        exact k)
      obtain ⟨T10, X10, e10, st10⟩ := own_chN (Ls := #[vr o0, vi (Int32.ofNat i), vi (Int32.ofNat a)]) X7 hx hZ e7 hw (W_ hw 17 rfl) hown TX SC hG1 SF rG3 (i := a) (j := (Int32.ofNat a)) (by omega) rfl (W_ hw 77 rfl) (W_ hw 78 rfl) (W_ hw 80 rfl) (W_ hw 79 rfl) [] 0 (by decide) (by decide) (by decide) (by decide) (by rw [hml]; rfl) (lenOf pd_1 rfl) (Nat.le_of_eq rfl) (D d37_12)
      have K11 := fun t k => K9 t (st10 t k)
      obtain ⟨T12, X12, e12, st12⟩ := Own.callP (Ls := #[vr o0, vi (Int32.ofNat i), vi (Int32.ofNat a)]) X10 hx hZ e10 [(.int (cs.getD a 0))] [] (c38 l Z a0 hw (cs.getD a 0)  h0 ) hown (W_ hw 151 rfl) (W_ hw 152 rfl) (W_ hw 45 rfl) (W_ hw 153 rfl) (by decide) 0 rfl rfl (by decide) (by decide) (by decide) (by decide) (szOf hml rfl) (lenOf pd_3 rfl) rfl (Nat.le_of_eq rfl) (D d37_15)
      have K13 := fun t k => K11 t (st12 t k)
      by_cases hc14 : (F38 (cs.getD a 0)) = (0 : Int32)
      · have K15 : Own.To p e below B0 T12 (mkF m 28 #[vr o0, vi (Int32.ofNat i), vi (Int32.ofNat a)] [(.int (Int32.ofNat a))]) := fun t k => K13 t (by
          refine Own.ifYes X12 hx 27 (D d37_18) ((if0 _ _).trans (teq hc14).1) (by decide) (by decide) ?_
          refine Own.iloadN X12 hx (D d37_27) rfl ?_
          exact k)
        exact Own.finI X12 hx (BodyLoose.notSynchronized Bd) Bd.returns (D d37_28) K15 (by decide) (by decide) ⟨by rw [hR, own_run, if_pos hc14], rfl, e12⟩
      · have K16 : Own.To p e below B0 T12 (mkF m 2 #[vr o0, vi (Int32.ofNat i), vi ((Int32.ofNat a) + (1 : Int32))] []) := fun t k => K13 t (by
          refine Own.ifNo X12 hx (D d37_18) ((if0 _ _).trans (feq hc14).1) ?_
          refine Own.iinc X12 hx ((Int32.ofNat a) + (1 : Int32)) #[vr o0, vi (Int32.ofNat i), vi ((Int32.ofNat a) + (1 : Int32))] (D d37_21) rfl rfl rfl ?_
          refine Own.goto X12 hx 2 (D d37_24) (by decide) (by decide) ?_
          exact k)
        rw [own_succ] at K16
        exact ih (a + 1) T12 (by omega) (by rw [hR, own_run, if_neg hc14]) X12 e12 K16
  exact loop (cs.length - i) i s₁ (by omega) rfl X0 e0 K1

def own_q (cs : List Int32) : Nat → Nat → Int32
  | 0, _ => -1
  | n + 1, a => if a < cs.length then (if cs.getD a 0 = 34 then Int32.ofNat (a + 1) else (if cs.getD a 0 = 92 then (if a + 1 = cs.length then -1 else (if F43 (cs.getD (a + 1) 0) = 0 then -1 else own_q cs n (a + 1 + 1))) else (if F43 (cs.getD a 0) = 0 then -1 else own_q cs n (a + 1)))) else -1

theorem d42_0 : decode J29 0 = .ok (.iload_n 1, 1) := by decide +kernel
theorem d42_1 : decode J29 1 = .ok (.iconst 1, 1) := by decide +kernel
theorem d42_2 : decode J29 2 = .ok (.iadd, 1) := by decide +kernel
theorem d42_3 : decode J29 3 = .ok (.istore_n 2, 1) := by decide +kernel
theorem d42_4 : decode J29 4 = .ok (.iload_n 2, 1) := by decide +kernel
theorem d42_5 : decode J29 5 = .ok (.aload_n 0, 1) := by decide +kernel
theorem d42_6 : decode J29 6 = .ok (.invokevirtual 17, 3) := by decide +kernel
theorem d42_9 : decode J29 9 = .ok (.if_icmp .ge 64, 3) := by decide +kernel
theorem d42_12 : decode J29 12 = .ok (.aload_n 0, 1) := by decide +kernel
theorem d42_13 : decode J29 13 = .ok (.iload_n 2, 1) := by decide +kernel
theorem d42_14 : decode J29 14 = .ok (.invokevirtual 26, 3) := by decide +kernel
theorem d42_17 : decode J29 17 = .ok (.istore_n 3, 1) := by decide +kernel
theorem d42_18 : decode J29 18 = .ok (.iload_n 3, 1) := by decide +kernel
theorem d42_19 : decode J29 19 = .ok (.bipush 34, 2) := by decide +kernel
theorem d42_21 : decode J29 21 = .ok (.if_icmp .ne 7, 3) := by decide +kernel
theorem d42_24 : decode J29 24 = .ok (.iload_n 2, 1) := by decide +kernel
theorem d42_25 : decode J29 25 = .ok (.iconst 1, 1) := by decide +kernel
theorem d42_26 : decode J29 26 = .ok (.iadd, 1) := by decide +kernel
theorem d42_27 : decode J29 27 = .ok (.ireturn, 1) := by decide +kernel
theorem d42_28 : decode J29 28 = .ok (.iload_n 3, 1) := by decide +kernel
theorem d42_29 : decode J29 29 = .ok (.bipush 92, 2) := by decide +kernel
theorem d42_31 : decode J29 31 = .ok (.if_icmp .ne 27, 3) := by decide +kernel
theorem d42_34 : decode J29 34 = .ok (.iinc 2 1, 3) := by decide +kernel
theorem d42_37 : decode J29 37 = .ok (.iload_n 2, 1) := by decide +kernel
theorem d42_38 : decode J29 38 = .ok (.aload_n 0, 1) := by decide +kernel
theorem d42_39 : decode J29 39 = .ok (.invokevirtual 17, 3) := by decide +kernel
theorem d42_42 : decode J29 42 = .ok (.if_icmp .eq 14, 3) := by decide +kernel
theorem d42_45 : decode J29 45 = .ok (.aload_n 0, 1) := by decide +kernel
theorem d42_46 : decode J29 46 = .ok (.iload_n 2, 1) := by decide +kernel
theorem d42_47 : decode J29 47 = .ok (.invokevirtual 26, 3) := by decide +kernel
theorem d42_50 : decode J29 50 = .ok (.invokestatic 51, 3) := by decide +kernel
theorem d42_53 : decode J29 53 = .ok (.ifCond .ne 14, 3) := by decide +kernel
theorem d42_56 : decode J29 56 = .ok (.iconst (-1), 1) := by decide +kernel
theorem d42_57 : decode J29 57 = .ok (.ireturn, 1) := by decide +kernel
theorem d42_58 : decode J29 58 = .ok (.iload_n 3, 1) := by decide +kernel
theorem d42_59 : decode J29 59 = .ok (.invokestatic 51, 3) := by decide +kernel
theorem d42_62 : decode J29 62 = .ok (.ifCond .ne 5, 3) := by decide +kernel
theorem d42_65 : decode J29 65 = .ok (.iconst (-1), 1) := by decide +kernel
theorem d42_66 : decode J29 66 = .ok (.ireturn, 1) := by decide +kernel
theorem d42_67 : decode J29 67 = .ok (.iinc 2 1, 3) := by decide +kernel
theorem d42_70 : decode J29 70 = .ok (.goto (-66), 3) := by decide +kernel
theorem d42_73 : decode J29 73 = .ok (.iconst (-1), 1) := by decide +kernel
theorem d42_74 : decode J29 74 = .ok (.ireturn, 1) := by decide +kernel
theorem ef_42 (m : MethodId) (o0 : Addr) (p1 : Int32) : entryFrame m #[(.ref o0), (.int p1)] 4 = mkF m 0 #[.val (.ref o0), .val (.int p1), .unset, .unset] [] := by first | (simp [entryFrame, mkF, argsToLocals, Value.category]; done) | rfl
set_option maxRecDepth 65536 in
set_option maxHeartbeats 40000000 in
theorem cQSE (l : Launch) (Z : State) (a0 : Array Value) (hw : ∀ d ∈ tables_1, d.before a0 Z = true) (o0 : Addr) (i : Nat) (cs : List Int32) (G1 : Int32) (G3 : Value) (h0 : Heap) (TX : own_Txt Z h0 o0 cs) (SC : Sta Z h0 "java/lang/String" "COMPACT_STRINGS" "Z" (.int G1)) (hG1 : ¬ G1 = 0) (SF : Sta Z h0 "jdk/internal/util/Preconditions" "SIOOBE_FORMATTER" "Ljava/util/function/BiFunction;" G3) (rG3 : G3.isRef = true) (hi : i < cs.length) : Own.Con l Z (⟨"com/example/pliktflow/pliktflow/deposit/MediaType", "quotedStringEnd", "(Ljava/lang/String;I)I"⟩ : MethodName) prog_22_method_6_code 4 (some .int) ({ frames := 4, cells := 0, slots := 0, locals := 53 } : Room) #[(.ref o0), (.int (Int32.ofNat i))] h0 (Own.Pure (.int (own_q cs cs.length (i + 1))) h0) := by
  intro ws
  refine MetFree.of_bodySF (plainFor_of_name pn_2) hisR ?_
  intro p e s m args below meth c s₁ Bd hml0 hP hK
  obtain ⟨rfl, hZ, hh⟩ := hP
  have hx := Bd.exec
  have hby := Bd.bytes
  have D := fun {n : Nat} {i} (d : decode prog_22_method_6_code n = .ok i) => hb hby d
  have hml : c.maxLocals = 4 := hml0
  have hown : s.vm.findClass "com/example/pliktflow/pliktflow/deposit/MediaType" = some m.cls := findClass_of_methodNamed Bd.named
  have hnm := (name_of_methodNamed Bd.named Bd.method).1
  have X0 : Stand p l e ({ frames := 4, cells := 0, slots := 0, locals := 53 } : Room) s m #[(.ref o0), (.int (Int32.ofNat i))] below meth c s₁ [] 0 0 := Stand.of_body Bd
  have e0 : s₁.heap = h0 := by rw [← hh, Bd.state]; rfl
  have K0 : ∀ t, Steps p.tables e below (s₁.setTop (mkF m 0 #[vr o0, vi (Int32.ofNat i), .unset, .unset] [])) t → Steps p.tables e below (s₁.setTop (entryFrame m #[(.ref o0), (.int (Int32.ofNat i))] 4)) t := fun t k => castTop (ef_42 m o0 (Int32.ofNat i)) k
  generalize s₁.setTop (entryFrame m #[(.ref o0), (.int (Int32.ofNat i))] 4) = B0 at K0 ⊢
  show Own.Fin p e below B0 s (({ frames := 4, cells := 0, slots := 0, locals := 53 } : Room)).cells (({ frames := 4, cells := 0, slots := 0, locals := 53 } : Room)).slots (Own.Pure (.int (own_q cs cs.length (i + 1))) h0)
  have hcl := own_Txt.len TX
  have hok := own_Txt.ok TX
  have K1 : Own.To p e below B0 s₁ (mkF m 4 #[vr o0, vi (Int32.ofNat i), vi ((Int32.ofNat i) + (1 : Int32)), .unset] []) := fun t k => K0 t (by
    refine Own.iloadN X0 hx (D d42_0) rfl ?_
    refine Own.iconst X0 hx 1 (D d42_1) rfl ?_
    refine Own.iadd X0 hx (D d42_2) ?_
    refine Own.istoreN X0 hx #[vr o0, vi (Int32.ofNat i), vi ((Int32.ofNat i) + (1 : Int32)), .unset] (D d42_3) rfl ?_
    exact k)
  rw [own_succ] at K1
  have loop : ∀ (n : Nat) (a : Nat) (u : Slot) (T : State), One u → cs.length ≤ a + n → a ≤ cs.length → own_q cs cs.length (i + 1) = own_q cs n a → Stand p l e ({ frames := 4, cells := 0, slots := 0, locals := 53 } : Room) s m #[(.ref o0), (.int (Int32.ofNat i))] below meth c T [] 0 0 → T.heap = h0 → (∀ t, Steps p.tables e below (T.setTop (mkF m 4 #[vr o0, vi (Int32.ofNat i), vi (Int32.ofNat a), u] [])) t → Steps p.tables e below B0 t) → Own.Fin p e below B0 s (({ frames := 4, cells := 0, slots := 0, locals := 53 } : Room)).cells (({ frames := 4, cells := 0, slots := 0, locals := 53 } : Room)).slots (Own.Pure (.int (own_q cs cs.length (i + 1))) h0) := by
    intro n
    induction n with
    | zero =>
      intro a u T ou ha hal hR X eT K
      have K2 : Own.To p e below B0 T (mkF m 6 #[vr o0, vi (Int32.ofNat i), vi (Int32.ofNat a), u] [(.ref o0), (.int (Int32.ofNat a))]) := fun t k => K t (by
        refine Own.iloadN X hx (D d42_4) rfl ?_
        refine Own.aloadN X hx (D d42_5) rfl rfl ?_
        exact k)
      obtain ⟨T3, X3, e3, st3⟩ := own_lenW (Ls := #[vr o0, vi (Int32.ofNat i), vi (Int32.ofNat a), u]) X hx hZ eT hw (W_ hw 17 rfl) hown TX SC hG1  (W_ hw 50 rfl) (W_ hw 51 rfl) (W_ hw 53 rfl) (W_ hw 52 rfl) [(.int (Int32.ofNat a))] 1 (by decide) (by decide) (by decide) (by decide) (by rw [hml]; rfl) (lenOf pd_9 rfl) (Nat.le_of_eq rfl) (D d42_6)
      have K4 := fun t k => K2 t (st3 t k)
      have K5 : Own.To p e below B0 T3 (mkF m 74 #[vr o0, vi (Int32.ofNat i), vi (Int32.ofNat a), u] [(.int (-1))]) := fun t k => K4 t (by
        refine Own.icmpYes X3 hx 73 (D d42_9) (flt (fun q => absurd ((own_lt (by omega) (by omega)).mp q) (by omega) : ¬ ((Int32.ofNat a) < (Int32.ofNat cs.length)))).2.1 (by decide) (by decide) ?_
        refine Own.iconst X3 hx (-1 : Int32) (D d42_73) rfl ?_
        exact k)
      exact Own.finI X3 hx (BodyLoose.notSynchronized Bd) Bd.returns (D d42_74) K5 (by decide) (by decide) ⟨by rw [hR]; rfl, rfl, e3⟩
    | succ n ih =>
      intro a u T ou ha hal hR X eT K
      have K6 : Own.To p e below B0 T (mkF m 6 #[vr o0, vi (Int32.ofNat i), vi (Int32.ofNat a), u] [(.ref o0), (.int (Int32.ofNat a))]) := fun t k => K t (by
        refine Own.iloadN X hx (D d42_4) rfl ?_
        refine Own.aloadN X hx (D d42_5) rfl rfl ?_
        exact k)
      obtain ⟨T7, X7, e7, st7⟩ := own_lenW (Ls := #[vr o0, vi (Int32.ofNat i), vi (Int32.ofNat a), u]) X hx hZ eT hw (W_ hw 17 rfl) hown TX SC hG1  (W_ hw 50 rfl) (W_ hw 51 rfl) (W_ hw 53 rfl) (W_ hw 52 rfl) [(.int (Int32.ofNat a))] 1 (by decide) (by decide) (by decide) (by decide) (by rw [hml]; rfl) (lenOf pd_9 rfl) (Nat.le_of_eq rfl) (D d42_6)
      have K8 := fun t k => K6 t (st7 t k)
      by_cases hc9 : (Int32.ofNat a) < (Int32.ofNat cs.length)
      · have K10 : Own.To p e below B0 T7 (mkF m 14 #[vr o0, vi (Int32.ofNat i), vi (Int32.ofNat a), u] [(.int (Int32.ofNat a)), (.ref o0)]) := fun t k => K8 t (by
          refine Own.icmpNo X7 hx (D d42_9) (tlt hc9).2.1 ?_
          refine Own.aloadN X7 hx (D d42_12) rfl rfl ?_
          refine Own.iloadN X7 hx (D d42_13) rfl ?_
          exact k)
        obtain ⟨T11, X11, e11, st11⟩ := own_chN (Ls := #[vr o0, vi (Int32.ofNat i), vi (Int32.ofNat a), u]) X7 hx hZ e7 hw (W_ hw 17 rfl) hown TX SC hG1 SF rG3 (i := a) (j := (Int32.ofNat a)) ((own_lt (by omega) (by omega)).mp hc9) rfl (W_ hw 77 rfl) (W_ hw 78 rfl) (W_ hw 80 rfl) (W_ hw 79 rfl) [] 0 (by decide) (by decide) (by decide) (by decide) (by rw [hml]; rfl) (lenOf pd_1 rfl) (Nat.le_of_eq rfl) (D d42_14)
        have K12 := fun t k => K10 t (st11 t k)
        have K13 : Own.To p e below B0 T11 (mkF m 21 #[vr o0, vi (Int32.ofNat i), vi (Int32.ofNat a), vi (cs.getD a 0)] [(.int 34), (.int (cs.getD a 0))]) := fun t k => K12 t (by
          refine Own.istoreN X11 hx #[vr o0, vi (Int32.ofNat i), vi (Int32.ofNat a), vi (cs.getD a 0)] (D d42_17) (XS.store1 (o := u) rfl ou rfl) ?_
          refine Own.iloadN X11 hx (D d42_18) rfl ?_
          refine Own.bipush X11 hx 34 (D d42_19) rfl ?_
          exact k)
        by_cases hc14 : (cs.getD a 0) = (34 : Int32)
        · have K15 : Own.To p e below B0 T11 (mkF m 27 #[vr o0, vi (Int32.ofNat i), vi (Int32.ofNat a), vi (cs.getD a 0)] [(.int ((Int32.ofNat a) + (1 : Int32)))]) := fun t k => K13 t (by
            refine Own.icmpNo X11 hx (D d42_21) (teq hc14).2 ?_
            refine Own.iloadN X11 hx (D d42_24) rfl ?_
            refine Own.iconst X11 hx 1 (D d42_25) rfl ?_
            refine Own.iadd X11 hx (D d42_26) ?_
            exact k)
          rw [own_succ] at K15
          exact Own.finI X11 hx (BodyLoose.notSynchronized Bd) Bd.returns (D d42_27) K15 (by decide) (by decide) ⟨by rw [hR, own_q, if_pos ((own_lt (by omega) (by omega)).mp hc9), if_pos hc14], rfl, e11⟩
        · have K16 : Own.To p e below B0 T11 (mkF m 31 #[vr o0, vi (Int32.ofNat i), vi (Int32.ofNat a), vi (cs.getD a 0)] [(.int 92), (.int (cs.getD a 0))]) := fun t k => K13 t (by
            refine Own.icmpYes X11 hx 28 (D d42_21) (feq hc14).2 (by decide) (by decide) ?_
            refine Own.iloadN X11 hx (D d42_28) rfl ?_
            refine Own.bipush X11 hx 92 (D d42_29) rfl ?_
            exact k)
          by_cases hc17 : (cs.getD a 0) = (92 : Int32)
          · have K18 : Own.To p e below B0 T11 (mkF m 37 #[vr o0, vi (Int32.ofNat i), vi ((Int32.ofNat a) + (1 : Int32)), vi (cs.getD a 0)] []) := fun t k => K16 t (by
              refine Own.icmpNo X11 hx (D d42_31) (teq hc17).2 ?_
              refine Own.iinc X11 hx ((Int32.ofNat a) + (1 : Int32)) #[vr o0, vi (Int32.ofNat i), vi ((Int32.ofNat a) + (1 : Int32)), vi (cs.getD a 0)] (D d42_34) rfl rfl rfl ?_
              exact k)
            rw [own_succ] at K18
            have K19 : Own.To p e below B0 T11 (mkF m 39 #[vr o0, vi (Int32.ofNat i), vi (Int32.ofNat (a + 1)), vi (cs.getD a 0)] [(.ref o0), (.int (Int32.ofNat (a + 1)))]) := fun t k => K18 t (by
              refine Own.iloadN X11 hx (D d42_37) rfl ?_
              refine Own.aloadN X11 hx (D d42_38) rfl rfl ?_
              exact k)
            obtain ⟨T20, X20, e20, st20⟩ := own_lenW (Ls := #[vr o0, vi (Int32.ofNat i), vi (Int32.ofNat (a + 1)), vi (cs.getD a 0)]) X11 hx hZ e11 hw (W_ hw 17 rfl) hown TX SC hG1  (W_ hw 50 rfl) (W_ hw 51 rfl) (W_ hw 53 rfl) (W_ hw 52 rfl) [(.int (Int32.ofNat (a + 1)))] 1 (by decide) (by decide) (by decide) (by decide) (by rw [hml]; rfl) (lenOf pd_9 rfl) (Nat.le_of_eq rfl) (D d42_39)
            have K21 := fun t k => K19 t (st20 t k)
            by_cases hc22 : (Int32.ofNat (a + 1)) = (Int32.ofNat cs.length)
            · have K23 : Own.To p e below B0 T20 (mkF m 57 #[vr o0, vi (Int32.ofNat i), vi (Int32.ofNat (a + 1)), vi (cs.getD a 0)] [(.int (-1))]) := fun t k => K21 t (by
                refine Own.icmpYes X20 hx 56 (D d42_42) (teq hc22).1 (by decide) (by decide) ?_
                refine Own.iconst X20 hx (-1 : Int32) (D d42_56) rfl ?_
                exact k)
              exact Own.finI X20 hx (BodyLoose.notSynchronized Bd) Bd.returns (D d42_57) K23 (by decide) (by decide) ⟨by rw [hR, own_q, if_pos ((own_lt (by omega) (by omega)).mp hc9), if_neg hc14, if_pos hc17, if_pos ((own_oi (by omega) (by omega)).mp hc22)], rfl, e20⟩
            · have K24 : Own.To p e below B0 T20 (mkF m 47 #[vr o0, vi (Int32.ofNat i), vi (Int32.ofNat (a + 1)), vi (cs.getD a 0)] [(.int (Int32.ofNat (a + 1))), (.ref o0)]) := fun t k => K21 t (by
                refine Own.icmpNo X20 hx (D d42_42) (feq hc22).1 ?_
                refine Own.aloadN X20 hx (D d42_45) rfl rfl ?_
                refine Own.iloadN X20 hx (D d42_46) rfl ?_
                exact k)
              have g0 := (own_lt (by omega) (by omega)).mp hc9
              obtain ⟨T25, X25, e25, st25⟩ := own_chN (Ls := #[vr o0, vi (Int32.ofNat i), vi (Int32.ofNat (a + 1)), vi (cs.getD a 0)]) X20 hx hZ e20 hw (W_ hw 17 rfl) hown TX SC hG1 SF rG3 (i := (a + 1)) (j := (Int32.ofNat (a + 1))) (Nat.lt_of_le_of_ne g0 (fun q => hc22 ((own_oi (by omega) (by omega)).mpr q))) rfl (W_ hw 77 rfl) (W_ hw 78 rfl) (W_ hw 80 rfl) (W_ hw 79 rfl) [] 0 (by decide) (by decide) (by decide) (by decide) (by rw [hml]; rfl) (lenOf pd_1 rfl) (Nat.le_of_eq rfl) (D d42_47)
              have K26 := fun t k => K24 t (st25 t k)
              obtain ⟨T27, X27, e27, st27⟩ := Own.callP (Ls := #[vr o0, vi (Int32.ofNat i), vi (Int32.ofNat (a + 1)), vi (cs.getD a 0)]) X25 hx hZ e25 [(.int (cs.getD (a + 1) 0))] [] (c43 l Z a0 hw (cs.getD (a + 1) 0)  h0 ) hown (W_ hw 167 rfl) (W_ hw 168 rfl) (W_ hw 45 rfl) (W_ hw 169 rfl) (by decide) 0 rfl rfl (by decide) (by decide) (by decide) (by decide) (szOf hml rfl) (lenOf pd_3 rfl) rfl (Nat.le_of_eq rfl) (D d42_50)
              have K28 := fun t k => K26 t (st27 t k)
              by_cases hc29 : (F43 (cs.getD (a + 1) 0)) = (0 : Int32)
              · have K30 : Own.To p e below B0 T27 (mkF m 57 #[vr o0, vi (Int32.ofNat i), vi (Int32.ofNat (a + 1)), vi (cs.getD a 0)] [(.int (-1))]) := fun t k => K28 t (by
                  refine Own.ifNo X27 hx (D d42_53) ((if0 _ _).trans (teq hc29).2) ?_
                  refine Own.iconst X27 hx (-1 : Int32) (D d42_56) rfl ?_
                  exact k)
                exact Own.finI X27 hx (BodyLoose.notSynchronized Bd) Bd.returns (D d42_57) K30 (by decide) (by decide) ⟨by rw [hR, own_q, if_pos ((own_lt (by omega) (by omega)).mp hc9), if_neg hc14, if_pos hc17, if_neg (fun q => hc22 ((own_oi (by omega) (by omega)).mpr q)), if_pos hc29], rfl, e27⟩
              · have K31 : Own.To p e below B0 T27 (mkF m 4 #[vr o0, vi (Int32.ofNat i), vi ((Int32.ofNat (a + 1)) + (1 : Int32)), vi (cs.getD a 0)] []) := fun t k => K28 t (by
                  refine Own.ifYes X27 hx 67 (D d42_53) ((if0 _ _).trans (feq hc29).2) (by decide) (by decide) ?_
                  refine Own.iinc X27 hx ((Int32.ofNat (a + 1)) + (1 : Int32)) #[vr o0, vi (Int32.ofNat i), vi ((Int32.ofNat (a + 1)) + (1 : Int32)), vi (cs.getD a 0)] (D d42_67) rfl rfl rfl ?_
                  refine Own.goto X27 hx 4 (D d42_70) (by decide) (by decide) ?_
                  exact k)
                have g1 := (own_lt (by omega) (by omega)).mp hc9
                have g2 : a + 1 < cs.length := Nat.lt_of_le_of_ne g1 (fun q => hc22 ((own_oi (by omega) (by omega)).mpr q))
                rw [own_succ] at K31
                exact ih (a + 1 + 1) _ T27 (One.val rfl) (by omega) (by omega) (by rw [hR, own_q, if_pos ((own_lt (by omega) (by omega)).mp hc9), if_neg hc14, if_pos hc17, if_neg (fun q => hc22 ((own_oi (by omega) (by omega)).mpr q)), if_neg hc29]) X27 e27 K31
          · have K32 : Own.To p e below B0 T11 (mkF m 59 #[vr o0, vi (Int32.ofNat i), vi (Int32.ofNat a), vi (cs.getD a 0)] [(.int (cs.getD a 0))]) := fun t k => K16 t (by
              refine Own.icmpYes X11 hx 58 (D d42_31) (feq hc17).2 (by decide) (by decide) ?_
              refine Own.iloadN X11 hx (D d42_58) rfl ?_
              exact k)
            obtain ⟨T33, X33, e33, st33⟩ := Own.callP (Ls := #[vr o0, vi (Int32.ofNat i), vi (Int32.ofNat a), vi (cs.getD a 0)]) X11 hx hZ e11 [(.int (cs.getD a 0))] [] (c43 l Z a0 hw (cs.getD a 0)  h0 ) hown (W_ hw 167 rfl) (W_ hw 168 rfl) (W_ hw 45 rfl) (W_ hw 169 rfl) (by decide) 0 rfl rfl (by decide) (by decide) (by decide) (by decide) (szOf hml rfl) (lenOf pd_3 rfl) rfl (Nat.le_of_eq rfl) (D d42_59)
            have K34 := fun t k => K32 t (st33 t k)
            by_cases hc35 : (F43 (cs.getD a 0)) = (0 : Int32)
            · have K36 : Own.To p e below B0 T33 (mkF m 66 #[vr o0, vi (Int32.ofNat i), vi (Int32.ofNat a), vi (cs.getD a 0)] [(.int (-1))]) := fun t k => K34 t (by
                refine Own.ifNo X33 hx (D d42_62) ((if0 _ _).trans (teq hc35).2) ?_
                refine Own.iconst X33 hx (-1 : Int32) (D d42_65) rfl ?_
                exact k)
              exact Own.finI X33 hx (BodyLoose.notSynchronized Bd) Bd.returns (D d42_66) K36 (by decide) (by decide) ⟨by rw [hR, own_q, if_pos ((own_lt (by omega) (by omega)).mp hc9), if_neg hc14, if_neg hc17, if_pos hc35], rfl, e33⟩
            · have K37 : Own.To p e below B0 T33 (mkF m 4 #[vr o0, vi (Int32.ofNat i), vi ((Int32.ofNat a) + (1 : Int32)), vi (cs.getD a 0)] []) := fun t k => K34 t (by
                refine Own.ifYes X33 hx 67 (D d42_62) ((if0 _ _).trans (feq hc35).2) (by decide) (by decide) ?_
                refine Own.iinc X33 hx ((Int32.ofNat a) + (1 : Int32)) #[vr o0, vi (Int32.ofNat i), vi ((Int32.ofNat a) + (1 : Int32)), vi (cs.getD a 0)] (D d42_67) rfl rfl rfl ?_
                refine Own.goto X33 hx 4 (D d42_70) (by decide) (by decide) ?_
                exact k)
              have g1 := (own_lt (by omega) (by omega)).mp hc9
              rw [own_succ] at K37
              exact ih (a + 1) _ T33 (One.val rfl) (by omega) (by omega) (by rw [hR, own_q, if_pos ((own_lt (by omega) (by omega)).mp hc9), if_neg hc14, if_neg hc17, if_neg hc35]) X33 e33 K37
      · have K38 : Own.To p e below B0 T7 (mkF m 74 #[vr o0, vi (Int32.ofNat i), vi (Int32.ofNat a), u] [(.int (-1))]) := fun t k => K8 t (by
          refine Own.icmpYes X7 hx 73 (D d42_9) (flt hc9).2.1 (by decide) (by decide) ?_
          refine Own.iconst X7 hx (-1 : Int32) (D d42_73) rfl ?_
          exact k)
        exact Own.finI X7 hx (BodyLoose.notSynchronized Bd) Bd.returns (D d42_74) K38 (by decide) (by decide) ⟨by rw [hR, own_q, if_neg (fun q => hc9 ((own_lt (by omega) (by omega)).mpr q))], rfl, e7⟩
  exact loop cs.length (i + 1) .unset s₁ One.u (by omega) (by omega) rfl X0 e0 K1

def own_nev (cs : List Int32) (i : Nat) : Int32 := if i = cs.length then -1 else (if F23 (cs.getD i 0) = 0 then -1 else Int32.ofNat (own_E own_nm cs (i + 1)))
theorem own_nev_ne {cs : List Int32} {i : Nat} (h : ¬ own_nev cs i = -1) : own_nev cs i = Int32.ofNat (own_E own_nm cs (i + 1)) := by
  unfold own_nev at h ⊢
  split
  · rename_i q; rw [if_pos q] at h; exact absurd rfl h
  · rename_i q; rw [if_neg q] at h; split
    · rename_i r; rw [if_pos r] at h; exact absurd rfl h
    · rfl
def own_tev (cs : List Int32) (i : Nat) : Int32 := if own_E own_tk cs i = i then -1 else Int32.ofNat (own_E own_tk cs i)
theorem own_tev_ne {cs : List Int32} {i : Nat} (h : ¬ own_tev cs i = -1) : own_tev cs i = Int32.ofNat (own_E own_tk cs i) := by
  unfold own_tev at h ⊢
  split
  · rename_i q; rw [if_pos q] at h; exact absurd rfl h
  · rfl

theorem d10_0 : decode J26 0 = .ok (.iload_n 1, 1) := by decide +kernel
theorem d10_1 : decode J26 1 = .ok (.aload_n 0, 1) := by decide +kernel
theorem d10_2 : decode J26 2 = .ok (.invokevirtual 17, 3) := by decide +kernel
theorem d10_5 : decode J26 5 = .ok (.if_icmp .eq 14, 3) := by decide +kernel
theorem d10_8 : decode J26 8 = .ok (.aload_n 0, 1) := by decide +kernel
theorem d10_9 : decode J26 9 = .ok (.iload_n 1, 1) := by decide +kernel
theorem d10_10 : decode J26 10 = .ok (.invokevirtual 26, 3) := by decide +kernel
theorem d10_13 : decode J26 13 = .ok (.invokestatic 33, 3) := by decide +kernel
theorem d10_16 : decode J26 16 = .ok (.ifCond .ne 5, 3) := by decide +kernel
theorem d10_19 : decode J26 19 = .ok (.iconst (-1), 1) := by decide +kernel
theorem d10_20 : decode J26 20 = .ok (.ireturn, 1) := by decide +kernel
theorem d10_21 : decode J26 21 = .ok (.iload_n 1, 1) := by decide +kernel
theorem d10_22 : decode J26 22 = .ok (.iconst 1, 1) := by decide +kernel
theorem d10_23 : decode J26 23 = .ok (.iadd, 1) := by decide +kernel
theorem d10_24 : decode J26 24 = .ok (.istore_n 2, 1) := by decide +kernel
theorem d10_25 : decode J26 25 = .ok (.iload_n 2, 1) := by decide +kernel
theorem d10_26 : decode J26 26 = .ok (.aload_n 0, 1) := by decide +kernel
theorem d10_27 : decode J26 27 = .ok (.invokevirtual 17, 3) := by decide +kernel
theorem d10_30 : decode J26 30 = .ok (.if_icmp .ge 22, 3) := by decide +kernel
theorem d10_33 : decode J26 33 = .ok (.aload_n 0, 1) := by decide +kernel
theorem d10_34 : decode J26 34 = .ok (.iload_n 2, 1) := by decide +kernel
theorem d10_35 : decode J26 35 = .ok (.invokevirtual 26, 3) := by decide +kernel
theorem d10_38 : decode J26 38 = .ok (.ldc 37, 2) := by decide +kernel
theorem d10_40 : decode J26 40 = .ok (.invokestatic 39, 3) := by decide +kernel
theorem d10_43 : decode J26 43 = .ok (.ifCond .eq 9, 3) := by decide +kernel
theorem d10_46 : decode J26 46 = .ok (.iinc 2 1, 3) := by decide +kernel
theorem d10_49 : decode J26 49 = .ok (.goto (-24), 3) := by decide +kernel
theorem d10_52 : decode J26 52 = .ok (.iload_n 2, 1) := by decide +kernel
theorem d10_53 : decode J26 53 = .ok (.ireturn, 1) := by decide +kernel
theorem pd_11 : parseMethodDescriptor "(CLjava/lang/String;)Z" = some ⟨[.char, (.object "java/lang/String")], some .boolean⟩ := by decide +kernel
theorem ef_10 (m : MethodId) (o0 : Addr) (p1 : Int32) : entryFrame m #[(.ref o0), (.int p1)] 3 = mkF m 0 #[.val (.ref o0), .val (.int p1), .unset] [] := by first | (simp [entryFrame, mkF, argsToLocals, Value.category]; done) | rfl
set_option maxRecDepth 65536 in
set_option maxHeartbeats 40000000 in
theorem cNE (l : Launch) (Z : State) (a0 : Array Value) (hw : ∀ d ∈ tables_1, d.before a0 Z = true) (o0 : Addr) (i : Nat) (k : Nat) (cs : List Int32) (G1 : Int32) (G3 : Value) (h0 : Heap) (TX : own_Txt Z h0 o0 cs) (SC : Sta Z h0 "java/lang/String" "COMPACT_STRINGS" "Z" (.int G1)) (hG1 : ¬ G1 = 0) (SF : Sta Z h0 "jdk/internal/util/Preconditions" "SIOOBE_FORMATTER" "Ljava/util/function/BiFunction;" G3) (rG3 : G3.isRef = true) (hi : i ≤ cs.length) (hk : own_E own_nm cs (i + 1) ≤ i + k) : Own.ConH l Z own_EL (⟨"com/example/pliktflow/pliktflow/deposit/MediaType", "nameEnd", "(Ljava/lang/String;I)I"⟩ : MethodName) prog_22_method_3_code 3 (some .int) ({ frames := 5, cells := 2 * k, slots := 40 * k, locals := 72 } : Room) #[(.ref o0), (.int (Int32.ofNat i))] h0 (fun v h L => v = some (.int (own_nev cs i)) ∧ L = [] ∧ Ext h0 h) := by
  intro ws
  refine MetFree.of_bodySF (plainFor_of_name pn_2) hisR ?_
  intro p e s m args below meth c s₁ Bd hml0 hP hK
  obtain ⟨rfl, hZ, hh, hH⟩ := hP
  have hx := Bd.exec
  have hby := Bd.bytes
  have D := fun {n : Nat} {i} (d : decode prog_22_method_3_code n = .ok i) => hb hby d
  have hml : c.maxLocals = 3 := hml0
  have hown : s.vm.findClass "com/example/pliktflow/pliktflow/deposit/MediaType" = some m.cls := findClass_of_methodNamed Bd.named
  have hnm := (name_of_methodNamed Bd.named Bd.method).1
  have X0 : Stand p l e ({ frames := 5, cells := 2 * k, slots := 40 * k, locals := 72 } : Room) (s.setVm s.vm) m #[(.ref o0), (.int (Int32.ofNat i))] below meth c s₁ [] 0 0 := Stand.of_body Bd
  have e0 : s₁.heap = h0 := by rw [← hh, Bd.state]; rfl
  have D0 : Own.Wd s Z own_EL "com/example/pliktflow/pliktflow/deposit/MediaType" m.cls s.vm h0 := by rw [← hh]; exact Own.Wd.start hZ hown (by rw [hh]; exact hH)
  have K0 : ∀ t, Steps p.tables e below (s₁.setTop (mkF m 0 #[vr o0, vi (Int32.ofNat i), .unset] [])) t → Steps p.tables e below (s₁.setTop (entryFrame m #[(.ref o0), (.int (Int32.ofNat i))] 3)) t := fun t k => castTop (ef_10 m o0 (Int32.ofNat i)) k
  generalize s₁.setTop (entryFrame m #[(.ref o0), (.int (Int32.ofNat i))] 3) = B0 at K0 ⊢
  show Own.FinH p e below B0 s Z own_EL (({ frames := 5, cells := 2 * k, slots := 40 * k, locals := 72 } : Room)).cells (({ frames := 5, cells := 2 * k, slots := 40 * k, locals := 72 } : Room)).slots (fun v h L => v = some (.int (own_nev cs i)) ∧ L = [] ∧ Ext h0 h)
  have hcl := own_Txt.len TX
  have hok := own_Txt.ok TX
  have K1 : Own.To p e below B0 s₁ (mkF m 2 #[vr o0, vi (Int32.ofNat i), .unset] [(.ref o0), (.int (Int32.ofNat i))]) := fun t k => K0 t (by
    refine Own.iloadN X0 hx (D d10_0) rfl ?_
    refine Own.aloadN X0 hx (D d10_1) rfl rfl ?_
    exact k)
  obtain ⟨T2, X2, e2, st2⟩ := own_lenW (Ls := #[vr o0, vi (Int32.ofNat i), .unset]) X0 hx D0.hZ e0 hw (W_ hw 17 rfl) D0.hown TX SC hG1  (W_ hw 50 rfl) (W_ hw 51 rfl) (W_ hw 53 rfl) (W_ hw 52 rfl) [(.int (Int32.ofNat i))] 1 (Nat.le_of_ble_eq_true rfl) (Nat.le_of_ble_eq_true rfl) (by show _ ≤ 2 * k; omega) (by show _ ≤ 40 * k; omega) (by rw [hml]; rfl) (lenOf pd_9 rfl) (Nat.le_of_eq rfl) (D d10_2)
  have K3 := fun t k => K1 t (st2 t k)
  by_cases hc4 : (Int32.ofNat i) = (Int32.ofNat cs.length)
  · have K5 : Own.To p e below B0 T2 (mkF m 20 #[vr o0, vi (Int32.ofNat i), .unset] [(.int (-1))]) := fun t k => K3 t (by
      refine Own.icmpYes X2 hx 19 (D d10_5) (teq hc4).1 (by decide) (by decide) ?_
      refine Own.iconst X2 hx (-1 : Int32) (D d10_19) rfl ?_
      exact k)
    exact Own.finHI X2 hx (own_hEL hw) e2 D0 (BodyLoose.notSynchronized Bd) Bd.returns (D d10_20) K5 (by show _ ≤ 2 * k; omega) (by show _ ≤ 40 * k; omega) (by rw [e2]; exact ⟨by rw [own_nev, if_pos ((own_oi (by omega) (by omega)).mp hc4)], rfl, Own.Ext.refl _⟩)
  · have K6 : Own.To p e below B0 T2 (mkF m 10 #[vr o0, vi (Int32.ofNat i), .unset] [(.int (Int32.ofNat i)), (.ref o0)]) := fun t k => K3 t (by
      refine Own.icmpNo X2 hx (D d10_5) (feq hc4).1 ?_
      refine Own.aloadN X2 hx (D d10_8) rfl rfl ?_
      refine Own.iloadN X2 hx (D d10_9) rfl ?_
      exact k)
    obtain ⟨T7, X7, e7, st7⟩ := own_chN (Ls := #[vr o0, vi (Int32.ofNat i), .unset]) X2 hx D0.hZ e2 hw (W_ hw 17 rfl) D0.hown TX SC hG1 SF rG3 (i := i) (j := (Int32.ofNat i)) (Nat.lt_of_le_of_ne hi (fun q => hc4 ((own_oi (by omega) (by omega)).mpr q))) rfl (W_ hw 77 rfl) (W_ hw 78 rfl) (W_ hw 80 rfl) (W_ hw 79 rfl) [] 0 (Nat.le_of_ble_eq_true rfl) (Nat.le_of_ble_eq_true rfl) (by show _ ≤ 2 * k; omega) (by show _ ≤ 40 * k; omega) (by rw [hml]; rfl) (lenOf pd_1 rfl) (Nat.le_of_eq rfl) (D d10_10)
    have K8 := fun t k => K6 t (st7 t k)
    obtain ⟨T9, X9, e9, st9⟩ := Own.callP (Ls := #[vr o0, vi (Int32.ofNat i), .unset]) X7 hx D0.hZ e7 [(.int (cs.getD i 0))] [] (c23 l Z a0 hw (cs.getD i 0)  h0 ) D0.hown (W_ hw 99 rfl) (W_ hw 100 rfl) (W_ hw 45 rfl) (W_ hw 101 rfl) (by decide) 0 rfl rfl (Nat.le_of_ble_eq_true rfl) (Nat.le_of_ble_eq_true rfl) (by show _ ≤ 2 * k; omega) (by show _ ≤ 40 * k; omega) (szOf hml rfl) (lenOf pd_3 rfl) rfl (Nat.le_of_eq rfl) (D d10_13)
    have K10 := fun t k => K8 t (st9 t k)
    by_cases hc11 : (F23 (cs.getD i 0)) = (0 : Int32)
    · have K12 : Own.To p e below B0 T9 (mkF m 20 #[vr o0, vi (Int32.ofNat i), .unset] [(.int (-1))]) := fun t k => K10 t (by
        refine Own.ifNo X9 hx (D d10_16) ((if0 _ _).trans (teq hc11).2) ?_
        refine Own.iconst X9 hx (-1 : Int32) (D d10_19) rfl ?_
        exact k)
      exact Own.finHI X9 hx (own_hEL hw) e9 D0 (BodyLoose.notSynchronized Bd) Bd.returns (D d10_20) K12 (by show _ ≤ 2 * k; omega) (by show _ ≤ 40 * k; omega) (by rw [e9]; exact ⟨by rw [own_nev, if_neg (fun q => hc4 ((own_oi (by omega) (by omega)).mpr q)), if_pos hc11], rfl, Own.Ext.refl _⟩)
    · have K13 : Own.To p e below B0 T9 (mkF m 25 #[vr o0, vi (Int32.ofNat i), vi ((Int32.ofNat i) + (1 : Int32))] []) := fun t k => K10 t (by
        refine Own.ifYes X9 hx 21 (D d10_16) ((if0 _ _).trans (feq hc11).2) (by decide) (by decide) ?_
        refine Own.iloadN X9 hx (D d10_21) rfl ?_
        refine Own.iconst X9 hx 1 (D d10_22) rfl ?_
        refine Own.iadd X9 hx (D d10_23) ?_
        refine Own.istoreN X9 hx #[vr o0, vi (Int32.ofNat i), vi ((Int32.ofNat i) + (1 : Int32))] (D d10_24) rfl ?_
        exact k)
      rw [own_succ] at K13
      have hlt : i < cs.length := Nat.lt_of_le_of_ne hi (fun q => hc4 ((own_oi (by omega) (by omega)).mpr q))
      have loop : ∀ (n : Nat) (a : Nat) (vmx : Vm) (hh : Heap) (cells slots : Nat) (T : State), a + n = cs.length → own_nev cs i = Int32.ofNat (own_run own_nm cs n a) → own_run own_nm cs n a ≤ i + k → cells ≤ 2 * (a - (i + 1)) → slots ≤ 40 * (a - (i + 1)) → i + 1 ≤ a → Own.Wd s Z own_EL "com/example/pliktflow/pliktflow/deposit/MediaType" m.cls vmx hh → Ext h0 hh → Stand p l e ({ frames := 5, cells := 2 * k, slots := 40 * k, locals := 72 } : Room) (s.setVm vmx) m #[(.ref o0), (.int (Int32.ofNat i))] below meth c T [] cells slots → T.heap = hh → (∀ t, Steps p.tables e below (T.setTop (mkF m 25 #[vr o0, vi (Int32.ofNat i), vi (Int32.ofNat a)] [])) t → Steps p.tables e below B0 t) → Own.FinH p e below B0 s Z own_EL (({ frames := 5, cells := 2 * k, slots := 40 * k, locals := 72 } : Room)).cells (({ frames := 5, cells := 2 * k, slots := 40 * k, locals := 72 } : Room)).slots (fun v h L => v = some (.int (own_nev cs i)) ∧ L = [] ∧ Ext h0 h) := by
        intro n
        induction n with
        | zero =>
          intro a vmx hh cells slots T ha hR hE hc1 hc2 ha1 Dx EX X eT K
          have TXh := TX.ext EX
          have SCh := SC.ext EX
          have SFh := SF.ext EX
          have hge := own_run_ge own_nm cs 0 a
          have K14 : Own.To p e below B0 T (mkF m 27 #[vr o0, vi (Int32.ofNat i), vi (Int32.ofNat a)] [(.ref o0), (.int (Int32.ofNat a))]) := fun t k => K t (by
            refine Own.iloadN X hx (D d10_25) rfl ?_
            refine Own.aloadN X hx (D d10_26) rfl rfl ?_
            exact k)
          obtain ⟨T15, X15, e15, st15⟩ := own_lenW (Ls := #[vr o0, vi (Int32.ofNat i), vi (Int32.ofNat a)]) X hx Dx.hZ eT hw (W_ hw 17 rfl) Dx.hown TXh SCh hG1  (W_ hw 50 rfl) (W_ hw 51 rfl) (W_ hw 53 rfl) (W_ hw 52 rfl) [(.int (Int32.ofNat a))] 1 (Nat.le_of_ble_eq_true rfl) (Nat.le_of_ble_eq_true rfl) (by show _ ≤ 2 * k; omega) (by show _ ≤ 40 * k; omega) (by rw [hml]; rfl) (lenOf pd_9 rfl) (Nat.le_of_eq rfl) (D d10_27)
          have K16 := fun t k => K14 t (st15 t k)
          have K17 : Own.To p e below B0 T15 (mkF m 53 #[vr o0, vi (Int32.ofNat i), vi (Int32.ofNat a)] [(.int (Int32.ofNat a))]) := fun t k => K16 t (by
            refine Own.icmpYes X15 hx 52 (D d10_30) (flt (fun q => absurd ((own_lt (by omega) (by omega)).mp q) (by omega) : ¬ ((Int32.ofNat a) < (Int32.ofNat cs.length)))).2.1 (by decide) (by decide) ?_
            refine Own.iloadN X15 hx (D d10_52) rfl ?_
            exact k)
          exact Own.finHI X15 hx (own_hEL hw) e15 Dx (BodyLoose.notSynchronized Bd) Bd.returns (D d10_53) K17 (by show _ ≤ 2 * k; omega) (by show _ ≤ 40 * k; omega) (by rw [e15]; exact ⟨by rw [hR]; rfl, rfl, EX⟩)
        | succ n ih =>
          intro a vmx hh cells slots T ha hR hE hc1 hc2 ha1 Dx EX X eT K
          have TXh := TX.ext EX
          have SCh := SC.ext EX
          have SFh := SF.ext EX
          have hge := own_run_ge own_nm cs (n + 1) a
          have K18 : Own.To p e below B0 T (mkF m 27 #[vr o0, vi (Int32.ofNat i), vi (Int32.ofNat a)] [(.ref o0), (.int (Int32.ofNat a))]) := fun t k => K t (by
            refine Own.iloadN X hx (D d10_25) rfl ?_
            refine Own.aloadN X hx (D d10_26) rfl rfl ?_
            exact k)
          obtain ⟨T19, X19, e19, st19⟩ := own_lenW (Ls := #[vr o0, vi (Int32.ofNat i), vi (Int32.ofNat a)]) X hx Dx.hZ eT hw (W_ hw 17 rfl) Dx.hown TXh SCh hG1  (W_ hw 50 rfl) (W_ hw 51 rfl) (W_ hw 53 rfl) (W_ hw 52 rfl) [(.int (Int32.ofNat a))] 1 (Nat.le_of_ble_eq_true rfl) (Nat.le_of_ble_eq_true rfl) (by show _ ≤ 2 * k; omega) (by show _ ≤ 40 * k; omega) (by rw [hml]; rfl) (lenOf pd_9 rfl) (Nat.le_of_eq rfl) (D d10_27)
          have K20 := fun t k => K18 t (st19 t k)
          have K21 : Own.To p e below B0 T19 (mkF m 35 #[vr o0, vi (Int32.ofNat i), vi (Int32.ofNat a)] [(.int (Int32.ofNat a)), (.ref o0)]) := fun t k => K20 t (by
            refine Own.icmpNo X19 hx (D d10_30) (tlt ((own_lt (by omega) (by omega)).mpr (by omega) : (Int32.ofNat a) < (Int32.ofNat cs.length))).2.1 ?_
            refine Own.aloadN X19 hx (D d10_33) rfl rfl ?_
            refine Own.iloadN X19 hx (D d10_34) rfl ?_
            exact k)
          obtain ⟨T22, X22, e22, st22⟩ := own_chN (Ls := #[vr o0, vi (Int32.ofNat i), vi (Int32.ofNat a)]) X19 hx Dx.hZ e19 hw (W_ hw 17 rfl) Dx.hown TXh SCh hG1 SFh rG3 (i := a) (j := (Int32.ofNat a)) (by omega) rfl (W_ hw 77 rfl) (W_ hw 78 rfl) (W_ hw 80 rfl) (W_ hw 79 rfl) [] 0 (Nat.le_of_ble_eq_true rfl) (Nat.le_of_ble_eq_true rfl) (by show _ ≤ 2 * k; omega) (by show _ ≤ 40 * k; omega) (by rw [hml]; rfl) (lenOf pd_1 rfl) (Nat.le_of_eq rfl) (D d10_35)
          have K23 := fun t k => K21 t (st22 t k)
          obtain ⟨vm24, T24, h24, a24, b24, k24, X24, e24, E24, D24, sf24, ex24, fv24, fc24, av24, ne24, st24⟩ := Own.ldcT (Ls := #[vr o0, vi (Int32.ofNat i), vi (Int32.ofNat a)]) (S := [(.int (cs.getD a 0))]) X22 hx (own_hEL hw) Dx e22 "!#$&^_.+-" (W_ hw 108 rfl) (own_wS hw) (by decide) [(33 : Int32), (35 : Int32), (36 : Int32), (38 : Int32), (94 : Int32), (95 : Int32), (46 : Int32), (43 : Int32), (45 : Int32)] (by decide) (by rfl) 36 (by decide) (by decide) (by decide) (by show _ ≤ 2 * k; omega) (by show _ ≤ 40 * k; omega) (D d10_38)
          have X24 : Stand p l e ({ frames := 5, cells := 2 * k, slots := 40 * k, locals := 72 } : Room) (s.setVm vm24) m #[(.ref o0), (.int (Int32.ofNat i))] below meth c T24 [] (cells + 2) (slots + 40) := X24
          have m25 : hh.size ≤ h24.size := E24.1
          have ca24 : Own.CA Z h24 b24 .byte ([(33 : Int32), (35 : Int32), (36 : Int32), (38 : Int32), (94 : Int32), (95 : Int32), (46 : Int32), (43 : Int32), (45 : Int32)].map fun c => c.toInt8.toInt32) := ⟨k24, by simpa using av24, by simp⟩
          have tx24 : own_Txt Z h24 a24 [(33 : Int32), (35 : Int32), (36 : Int32), (38 : Int32), (94 : Int32), (95 : Int32), (46 : Int32), (43 : Int32), (45 : Int32)] := ⟨b24, k24, ex24, fv24, fc24, av24, by decide, by decide⟩
          have K26 := fun t k => K23 t (st24 t k)
          have f27 := (SCh.ext E24)
          obtain ⟨T28, X28, e28, st28⟩ := Own.callP (Ls := #[vr o0, vi (Int32.ofNat i), vi (Int32.ofNat a)]) X24 hx D24.hZ e24 [(.int (cs.getD a 0)), (.ref a24)] [] (cLDO l Z a0 hw (cs.getD a 0) a24 [(33 : Int32), (35 : Int32), (36 : Int32), (38 : Int32), (94 : Int32), (95 : Int32), (46 : Int32), (43 : Int32), (45 : Int32)] G1 h24 tx24 (own_okg hok (show a < cs.length by omega)) (by decide) f27 hG1) D24.hown (W_ hw 109 rfl) (W_ hw 110 rfl) (W_ hw 45 rfl) (W_ hw 111 rfl) (by decide) 0 rfl rfl (Nat.le_of_ble_eq_true rfl) (Nat.le_of_ble_eq_true rfl) (by show _ ≤ 2 * k; omega) (by show _ ≤ 40 * k; omega) (szOf hml rfl) (lenOf pd_11 rfl) rfl (Nat.le_of_eq rfl) (D d10_40)
          have K29 := fun t k => K26 t (st28 t k)
          by_cases hc30 : (own_ldo (cs.getD a 0) [(33 : Int32), (35 : Int32), (36 : Int32), (38 : Int32), (94 : Int32), (95 : Int32), (46 : Int32), (43 : Int32), (45 : Int32)]) = (0 : Int32)
          · have K31 : Own.To p e below B0 T28 (mkF m 53 #[vr o0, vi (Int32.ofNat i), vi (Int32.ofNat a)] [(.int (Int32.ofNat a))]) := fun t k => K29 t (by
              refine Own.ifYes X28 hx 52 (D d10_43) ((if0 _ _).trans (teq hc30).1) (by decide) (by decide) ?_
              refine Own.iloadN X28 hx (D d10_52) rfl ?_
              exact k)
            exact Own.finHI X28 hx (own_hEL hw) e28 D24 (BodyLoose.notSynchronized Bd) Bd.returns (D d10_53) K31 (by show _ ≤ 2 * k; omega) (by show _ ≤ 40 * k; omega) (by rw [e28]; exact ⟨by rw [hR, own_run, if_pos (show own_nm (cs.getD a 0) = 0 from hc30)], rfl, (Own.Ext.trans EX E24)⟩)
          · have K32 : Own.To p e below B0 T28 (mkF m 25 #[vr o0, vi (Int32.ofNat i), vi ((Int32.ofNat a) + (1 : Int32))] []) := fun t k => K29 t (by
              refine Own.ifNo X28 hx (D d10_43) ((if0 _ _).trans (feq hc30).1) ?_
              refine Own.iinc X28 hx ((Int32.ofNat a) + (1 : Int32)) #[vr o0, vi (Int32.ofNat i), vi ((Int32.ofNat a) + (1 : Int32))] (D d10_46) rfl rfl rfl ?_
              refine Own.goto X28 hx 25 (D d10_49) (by decide) (by decide) ?_
              exact k)
            rw [own_succ] at K32
            exact ih (a + 1) vm24 h24 (cells + 2) (slots + 40) T28 (by omega) (by rw [hR, own_run, if_neg (show ¬ own_nm (cs.getD a 0) = 0 from hc30)]) (by rw [own_run, if_neg (show ¬ own_nm (cs.getD a 0) = 0 from hc30)] at hE; exact hE) (by omega) (by omega) (by omega) D24 (Own.Ext.trans EX E24) X28 e28 K32
      exact loop (cs.length - (i + 1)) (i + 1) s.vm h0 0 0 T9 (by omega) (by rw [own_nev, if_neg (fun q => hc4 ((own_oi (by omega) (by omega)).mpr q)), if_neg hc11]; rfl) hk (by omega) (by omega) (by omega) D0 (Own.Ext.refl _) X9 e9 K13

theorem d40_0 : decode J28 0 = .ok (.iload_n 1, 1) := by decide +kernel
theorem d40_1 : decode J28 1 = .ok (.istore_n 2, 1) := by decide +kernel
theorem d40_2 : decode J28 2 = .ok (.iload_n 2, 1) := by decide +kernel
theorem d40_3 : decode J28 3 = .ok (.aload_n 0, 1) := by decide +kernel
theorem d40_4 : decode J28 4 = .ok (.invokevirtual 17, 3) := by decide +kernel
theorem d40_7 : decode J28 7 = .ok (.if_icmp .ge 22, 3) := by decide +kernel
theorem d40_10 : decode J28 10 = .ok (.aload_n 0, 1) := by decide +kernel
theorem d40_11 : decode J28 11 = .ok (.iload_n 2, 1) := by decide +kernel
theorem d40_12 : decode J28 12 = .ok (.invokevirtual 26, 3) := by decide +kernel
theorem d40_15 : decode J28 15 = .ok (.ldc 49, 2) := by decide +kernel
theorem d40_17 : decode J28 17 = .ok (.invokestatic 39, 3) := by decide +kernel
theorem d40_20 : decode J28 20 = .ok (.ifCond .eq 9, 3) := by decide +kernel
theorem d40_23 : decode J28 23 = .ok (.iinc 2 1, 3) := by decide +kernel
theorem d40_26 : decode J28 26 = .ok (.goto (-24), 3) := by decide +kernel
theorem d40_29 : decode J28 29 = .ok (.iload_n 2, 1) := by decide +kernel
theorem d40_30 : decode J28 30 = .ok (.iload_n 1, 1) := by decide +kernel
theorem d40_31 : decode J28 31 = .ok (.if_icmp .ne 7, 3) := by decide +kernel
theorem d40_34 : decode J28 34 = .ok (.iconst (-1), 1) := by decide +kernel
theorem d40_35 : decode J28 35 = .ok (.goto 4, 3) := by decide +kernel
theorem d40_38 : decode J28 38 = .ok (.iload_n 2, 1) := by decide +kernel
theorem d40_39 : decode J28 39 = .ok (.ireturn, 1) := by decide +kernel
theorem ef_40 (m : MethodId) (o0 : Addr) (p1 : Int32) : entryFrame m #[(.ref o0), (.int p1)] 3 = mkF m 0 #[.val (.ref o0), .val (.int p1), .unset] [] := by first | (simp [entryFrame, mkF, argsToLocals, Value.category]; done) | rfl
set_option maxRecDepth 65536 in
set_option maxHeartbeats 40000000 in
theorem cTE (l : Launch) (Z : State) (a0 : Array Value) (hw : ∀ d ∈ tables_1, d.before a0 Z = true) (o0 : Addr) (i : Nat) (k : Nat) (cs : List Int32) (G1 : Int32) (G3 : Value) (h0 : Heap) (TX : own_Txt Z h0 o0 cs) (SC : Sta Z h0 "java/lang/String" "COMPACT_STRINGS" "Z" (.int G1)) (hG1 : ¬ G1 = 0) (SF : Sta Z h0 "jdk/internal/util/Preconditions" "SIOOBE_FORMATTER" "Ljava/util/function/BiFunction;" G3) (rG3 : G3.isRef = true) (hi : i ≤ cs.length) (hk : own_E own_tk cs i + 1 ≤ i + k) : Own.ConH l Z own_EL (⟨"com/example/pliktflow/pliktflow/deposit/MediaType", "tokenEnd", "(Ljava/lang/String;I)I"⟩ : MethodName) prog_22_method_5_code 3 (some .int) ({ frames := 5, cells := 2 * k, slots := 64 * k, locals := 72 } : Room) #[(.ref o0), (.int (Int32.ofNat i))] h0 (fun v h L => v = some (.int (own_tev cs i)) ∧ L = [] ∧ Ext h0 h) := by
  intro ws
  refine MetFree.of_bodySF (plainFor_of_name pn_2) hisR ?_
  intro p e s m args below meth c s₁ Bd hml0 hP hK
  obtain ⟨rfl, hZ, hh, hH⟩ := hP
  have hx := Bd.exec
  have hby := Bd.bytes
  have D := fun {n : Nat} {i} (d : decode prog_22_method_5_code n = .ok i) => hb hby d
  have hml : c.maxLocals = 3 := hml0
  have hown : s.vm.findClass "com/example/pliktflow/pliktflow/deposit/MediaType" = some m.cls := findClass_of_methodNamed Bd.named
  have hnm := (name_of_methodNamed Bd.named Bd.method).1
  have X0 : Stand p l e ({ frames := 5, cells := 2 * k, slots := 64 * k, locals := 72 } : Room) (s.setVm s.vm) m #[(.ref o0), (.int (Int32.ofNat i))] below meth c s₁ [] 0 0 := Stand.of_body Bd
  have e0 : s₁.heap = h0 := by rw [← hh, Bd.state]; rfl
  have D0 : Own.Wd s Z own_EL "com/example/pliktflow/pliktflow/deposit/MediaType" m.cls s.vm h0 := by rw [← hh]; exact Own.Wd.start hZ hown (by rw [hh]; exact hH)
  have K0 : ∀ t, Steps p.tables e below (s₁.setTop (mkF m 0 #[vr o0, vi (Int32.ofNat i), .unset] [])) t → Steps p.tables e below (s₁.setTop (entryFrame m #[(.ref o0), (.int (Int32.ofNat i))] 3)) t := fun t k => castTop (ef_40 m o0 (Int32.ofNat i)) k
  generalize s₁.setTop (entryFrame m #[(.ref o0), (.int (Int32.ofNat i))] 3) = B0 at K0 ⊢
  show Own.FinH p e below B0 s Z own_EL (({ frames := 5, cells := 2 * k, slots := 64 * k, locals := 72 } : Room)).cells (({ frames := 5, cells := 2 * k, slots := 64 * k, locals := 72 } : Room)).slots (fun v h L => v = some (.int (own_tev cs i)) ∧ L = [] ∧ Ext h0 h)
  have hcl := own_Txt.len TX
  have hok := own_Txt.ok TX
  have K1 : Own.To p e below B0 s₁ (mkF m 2 #[vr o0, vi (Int32.ofNat i), vi (Int32.ofNat i)] []) := fun t k => K0 t (by
    refine Own.iloadN X0 hx (D d40_0) rfl ?_
    refine Own.istoreN X0 hx #[vr o0, vi (Int32.ofNat i), vi (Int32.ofNat i)] (D d40_1) rfl ?_
    exact k)
  have loop : ∀ (n : Nat) (a : Nat) (vmx : Vm) (hh : Heap) (cells slots : Nat) (T : State), a + n = cs.length → own_E own_tk cs i = own_run own_tk cs n a → own_run own_tk cs n a + 1 ≤ i + k → cells ≤ 2 * (a - i) → slots ≤ 64 * (a - i) → i ≤ a → Own.Wd s Z own_EL "com/example/pliktflow/pliktflow/deposit/MediaType" m.cls vmx hh → Ext h0 hh → Stand p l e ({ frames := 5, cells := 2 * k, slots := 64 * k, locals := 72 } : Room) (s.setVm vmx) m #[(.ref o0), (.int (Int32.ofNat i))] below meth c T [] cells slots → T.heap = hh → (∀ t, Steps p.tables e below (T.setTop (mkF m 2 #[vr o0, vi (Int32.ofNat i), vi (Int32.ofNat a)] [])) t → Steps p.tables e below B0 t) → Own.FinH p e below B0 s Z own_EL (({ frames := 5, cells := 2 * k, slots := 64 * k, locals := 72 } : Room)).cells (({ frames := 5, cells := 2 * k, slots := 64 * k, locals := 72 } : Room)).slots (fun v h L => v = some (.int (own_tev cs i)) ∧ L = [] ∧ Ext h0 h) := by
    intro n
    induction n with
    | zero =>
      intro a vmx hh cells slots T ha hR hE hc1 hc2 ha1 Dx EX X eT K
      have TXh := TX.ext EX
      have SCh := SC.ext EX
      have SFh := SF.ext EX
      have hge := own_run_ge own_tk cs 0 a
      have K2 : Own.To p e below B0 T (mkF m 4 #[vr o0, vi (Int32.ofNat i), vi (Int32.ofNat a)] [(.ref o0), (.int (Int32.ofNat a))]) := fun t k => K t (by
        refine Own.iloadN X hx (D d40_2) rfl ?_
        refine Own.aloadN X hx (D d40_3) rfl rfl ?_
        exact k)
      obtain ⟨T3, X3, e3, st3⟩ := own_lenW (Ls := #[vr o0, vi (Int32.ofNat i), vi (Int32.ofNat a)]) X hx Dx.hZ eT hw (W_ hw 17 rfl) Dx.hown TXh SCh hG1  (W_ hw 50 rfl) (W_ hw 51 rfl) (W_ hw 53 rfl) (W_ hw 52 rfl) [(.int (Int32.ofNat a))] 1 (Nat.le_of_ble_eq_true rfl) (Nat.le_of_ble_eq_true rfl) (by show _ ≤ 2 * k; omega) (by show _ ≤ 64 * k; omega) (by rw [hml]; rfl) (lenOf pd_9 rfl) (Nat.le_of_eq rfl) (D d40_4)
      have K4 := fun t k => K2 t (st3 t k)
      have K5 : Own.To p e below B0 T3 (mkF m 31 #[vr o0, vi (Int32.ofNat i), vi (Int32.ofNat a)] [(.int (Int32.ofNat i)), (.int (Int32.ofNat a))]) := fun t k => K4 t (by
        refine Own.icmpYes X3 hx 29 (D d40_7) (flt (fun q => absurd ((own_lt (by omega) (by omega)).mp q) (by omega) : ¬ ((Int32.ofNat a) < (Int32.ofNat cs.length)))).2.1 (by decide) (by decide) ?_
        refine Own.iloadN X3 hx (D d40_29) rfl ?_
        refine Own.iloadN X3 hx (D d40_30) rfl ?_
        exact k)
      by_cases hc6 : (Int32.ofNat a) = (Int32.ofNat i)
      · have K7 : Own.To p e below B0 T3 (mkF m 39 #[vr o0, vi (Int32.ofNat i), vi (Int32.ofNat a)] [(.int (-1))]) := fun t k => K5 t (by
          refine Own.icmpNo X3 hx (D d40_31) (teq hc6).2 ?_
          refine Own.iconst X3 hx (-1 : Int32) (D d40_34) rfl ?_
          refine Own.goto X3 hx 39 (D d40_35) (by decide) (by decide) ?_
          exact k)
        have q : own_E own_tk cs i = a := by rw [hR]; rfl
        exact Own.finHI X3 hx (own_hEL hw) e3 Dx (BodyLoose.notSynchronized Bd) Bd.returns (D d40_39) K7 (by show _ ≤ 2 * k; omega) (by show _ ≤ 64 * k; omega) (by rw [e3]; exact ⟨by rw [own_tev, q, if_pos ((own_oi (by omega) (by omega)).mp hc6)], rfl, EX⟩)
      · have K8 : Own.To p e below B0 T3 (mkF m 39 #[vr o0, vi (Int32.ofNat i), vi (Int32.ofNat a)] [(.int (Int32.ofNat a))]) := fun t k => K5 t (by
          refine Own.icmpYes X3 hx 38 (D d40_31) (feq hc6).2 (by decide) (by decide) ?_
          refine Own.iloadN X3 hx (D d40_38) rfl ?_
          exact k)
        have q : own_E own_tk cs i = a := by rw [hR]; rfl
        exact Own.finHI X3 hx (own_hEL hw) e3 Dx (BodyLoose.notSynchronized Bd) Bd.returns (D d40_39) K8 (by show _ ≤ 2 * k; omega) (by show _ ≤ 64 * k; omega) (by rw [e3]; exact ⟨by rw [own_tev, q, if_neg (fun q => hc6 ((own_oi (by omega) (by omega)).mpr q))], rfl, EX⟩)
    | succ n ih =>
      intro a vmx hh cells slots T ha hR hE hc1 hc2 ha1 Dx EX X eT K
      have TXh := TX.ext EX
      have SCh := SC.ext EX
      have SFh := SF.ext EX
      have hge := own_run_ge own_tk cs (n + 1) a
      have K9 : Own.To p e below B0 T (mkF m 4 #[vr o0, vi (Int32.ofNat i), vi (Int32.ofNat a)] [(.ref o0), (.int (Int32.ofNat a))]) := fun t k => K t (by
        refine Own.iloadN X hx (D d40_2) rfl ?_
        refine Own.aloadN X hx (D d40_3) rfl rfl ?_
        exact k)
      obtain ⟨T10, X10, e10, st10⟩ := own_lenW (Ls := #[vr o0, vi (Int32.ofNat i), vi (Int32.ofNat a)]) X hx Dx.hZ eT hw (W_ hw 17 rfl) Dx.hown TXh SCh hG1  (W_ hw 50 rfl) (W_ hw 51 rfl) (W_ hw 53 rfl) (W_ hw 52 rfl) [(.int (Int32.ofNat a))] 1 (Nat.le_of_ble_eq_true rfl) (Nat.le_of_ble_eq_true rfl) (by show _ ≤ 2 * k; omega) (by show _ ≤ 64 * k; omega) (by rw [hml]; rfl) (lenOf pd_9 rfl) (Nat.le_of_eq rfl) (D d40_4)
      have K11 := fun t k => K9 t (st10 t k)
      have K12 : Own.To p e below B0 T10 (mkF m 12 #[vr o0, vi (Int32.ofNat i), vi (Int32.ofNat a)] [(.int (Int32.ofNat a)), (.ref o0)]) := fun t k => K11 t (by
        refine Own.icmpNo X10 hx (D d40_7) (tlt ((own_lt (by omega) (by omega)).mpr (by omega) : (Int32.ofNat a) < (Int32.ofNat cs.length))).2.1 ?_
        refine Own.aloadN X10 hx (D d40_10) rfl rfl ?_
        refine Own.iloadN X10 hx (D d40_11) rfl ?_
        exact k)
      obtain ⟨T13, X13, e13, st13⟩ := own_chN (Ls := #[vr o0, vi (Int32.ofNat i), vi (Int32.ofNat a)]) X10 hx Dx.hZ e10 hw (W_ hw 17 rfl) Dx.hown TXh SCh hG1 SFh rG3 (i := a) (j := (Int32.ofNat a)) (by omega) rfl (W_ hw 77 rfl) (W_ hw 78 rfl) (W_ hw 80 rfl) (W_ hw 79 rfl) [] 0 (Nat.le_of_ble_eq_true rfl) (Nat.le_of_ble_eq_true rfl) (by show _ ≤ 2 * k; omega) (by show _ ≤ 64 * k; omega) (by rw [hml]; rfl) (lenOf pd_1 rfl) (Nat.le_of_eq rfl) (D d40_12)
      have K14 := fun t k => K12 t (st13 t k)
      obtain ⟨vm15, T15, h15, a15, b15, k15, X15, e15, E15, D15, sf15, ex15, fv15, fc15, av15, ne15, st15⟩ := Own.ldcT (Ls := #[vr o0, vi (Int32.ofNat i), vi (Int32.ofNat a)]) (S := [(.int (cs.getD a 0))]) X13 hx (own_hEL hw) Dx e13 "!#$%&'*+.^_`|~-" (W_ hw 160 rfl) (own_wS hw) (by decide) [(33 : Int32), (35 : Int32), (36 : Int32), (37 : Int32), (38 : Int32), (39 : Int32), (42 : Int32), (43 : Int32), (46 : Int32), (94 : Int32), (95 : Int32), (96 : Int32), (124 : Int32), (126 : Int32), (45 : Int32)] (by decide) (by rfl) 60 (by decide) (by decide) (by decide) (by show _ ≤ 2 * k; omega) (by show _ ≤ 64 * k; omega) (D d40_15)
      have X15 : Stand p l e ({ frames := 5, cells := 2 * k, slots := 64 * k, locals := 72 } : Room) (s.setVm vm15) m #[(.ref o0), (.int (Int32.ofNat i))] below meth c T15 [] (cells + 2) (slots + 64) := X15
      have m16 : hh.size ≤ h15.size := E15.1
      have ca15 : Own.CA Z h15 b15 .byte ([(33 : Int32), (35 : Int32), (36 : Int32), (37 : Int32), (38 : Int32), (39 : Int32), (42 : Int32), (43 : Int32), (46 : Int32), (94 : Int32), (95 : Int32), (96 : Int32), (124 : Int32), (126 : Int32), (45 : Int32)].map fun c => c.toInt8.toInt32) := ⟨k15, by simpa using av15, by simp⟩
      have tx15 : own_Txt Z h15 a15 [(33 : Int32), (35 : Int32), (36 : Int32), (37 : Int32), (38 : Int32), (39 : Int32), (42 : Int32), (43 : Int32), (46 : Int32), (94 : Int32), (95 : Int32), (96 : Int32), (124 : Int32), (126 : Int32), (45 : Int32)] := ⟨b15, k15, ex15, fv15, fc15, av15, by decide, by decide⟩
      have K17 := fun t k => K14 t (st15 t k)
      have f18 := (SCh.ext E15)
      obtain ⟨T19, X19, e19, st19⟩ := Own.callP (Ls := #[vr o0, vi (Int32.ofNat i), vi (Int32.ofNat a)]) X15 hx D15.hZ e15 [(.int (cs.getD a 0)), (.ref a15)] [] (cLDO l Z a0 hw (cs.getD a 0) a15 [(33 : Int32), (35 : Int32), (36 : Int32), (37 : Int32), (38 : Int32), (39 : Int32), (42 : Int32), (43 : Int32), (46 : Int32), (94 : Int32), (95 : Int32), (96 : Int32), (124 : Int32), (126 : Int32), (45 : Int32)] G1 h15 tx15 (own_okg hok (show a < cs.length by omega)) (by decide) f18 hG1) D15.hown (W_ hw 109 rfl) (W_ hw 110 rfl) (W_ hw 45 rfl) (W_ hw 111 rfl) (by decide) 0 rfl rfl (Nat.le_of_ble_eq_true rfl) (Nat.le_of_ble_eq_true rfl) (by show _ ≤ 2 * k; omega) (by show _ ≤ 64 * k; omega) (szOf hml rfl) (lenOf pd_11 rfl) rfl (Nat.le_of_eq rfl) (D d40_17)
      have K20 := fun t k => K17 t (st19 t k)
      by_cases hc21 : (own_ldo (cs.getD a 0) [(33 : Int32), (35 : Int32), (36 : Int32), (37 : Int32), (38 : Int32), (39 : Int32), (42 : Int32), (43 : Int32), (46 : Int32), (94 : Int32), (95 : Int32), (96 : Int32), (124 : Int32), (126 : Int32), (45 : Int32)]) = (0 : Int32)
      · have K22 : Own.To p e below B0 T19 (mkF m 31 #[vr o0, vi (Int32.ofNat i), vi (Int32.ofNat a)] [(.int (Int32.ofNat i)), (.int (Int32.ofNat a))]) := fun t k => K20 t (by
          refine Own.ifYes X19 hx 29 (D d40_20) ((if0 _ _).trans (teq hc21).1) (by decide) (by decide) ?_
          refine Own.iloadN X19 hx (D d40_29) rfl ?_
          refine Own.iloadN X19 hx (D d40_30) rfl ?_
          exact k)
        by_cases hc23 : (Int32.ofNat a) = (Int32.ofNat i)
        · have K24 : Own.To p e below B0 T19 (mkF m 39 #[vr o0, vi (Int32.ofNat i), vi (Int32.ofNat a)] [(.int (-1))]) := fun t k => K22 t (by
            refine Own.icmpNo X19 hx (D d40_31) (teq hc23).2 ?_
            refine Own.iconst X19 hx (-1 : Int32) (D d40_34) rfl ?_
            refine Own.goto X19 hx 39 (D d40_35) (by decide) (by decide) ?_
            exact k)
          have q : own_E own_tk cs i = a := by rw [hR, own_run, if_pos (show own_tk (cs.getD a 0) = 0 from hc21)]
          exact Own.finHI X19 hx (own_hEL hw) e19 D15 (BodyLoose.notSynchronized Bd) Bd.returns (D d40_39) K24 (by show _ ≤ 2 * k; omega) (by show _ ≤ 64 * k; omega) (by rw [e19]; exact ⟨by rw [own_tev, q, if_pos ((own_oi (by omega) (by omega)).mp hc23)], rfl, (Own.Ext.trans EX E15)⟩)
        · have K25 : Own.To p e below B0 T19 (mkF m 39 #[vr o0, vi (Int32.ofNat i), vi (Int32.ofNat a)] [(.int (Int32.ofNat a))]) := fun t k => K22 t (by
            refine Own.icmpYes X19 hx 38 (D d40_31) (feq hc23).2 (by decide) (by decide) ?_
            refine Own.iloadN X19 hx (D d40_38) rfl ?_
            exact k)
          have q : own_E own_tk cs i = a := by rw [hR, own_run, if_pos (show own_tk (cs.getD a 0) = 0 from hc21)]
          exact Own.finHI X19 hx (own_hEL hw) e19 D15 (BodyLoose.notSynchronized Bd) Bd.returns (D d40_39) K25 (by show _ ≤ 2 * k; omega) (by show _ ≤ 64 * k; omega) (by rw [e19]; exact ⟨by rw [own_tev, q, if_neg (fun q => hc23 ((own_oi (by omega) (by omega)).mpr q))], rfl, (Own.Ext.trans EX E15)⟩)
      · have K26 : Own.To p e below B0 T19 (mkF m 2 #[vr o0, vi (Int32.ofNat i), vi ((Int32.ofNat a) + (1 : Int32))] []) := fun t k => K20 t (by
          refine Own.ifNo X19 hx (D d40_20) ((if0 _ _).trans (feq hc21).1) ?_
          refine Own.iinc X19 hx ((Int32.ofNat a) + (1 : Int32)) #[vr o0, vi (Int32.ofNat i), vi ((Int32.ofNat a) + (1 : Int32))] (D d40_23) rfl rfl rfl ?_
          refine Own.goto X19 hx 2 (D d40_26) (by decide) (by decide) ?_
          exact k)
        rw [own_succ] at K26
        exact ih (a + 1) vm15 h15 (cells + 2) (slots + 64) T19 (by omega) (by rw [hR, own_run, if_neg (show ¬ own_tk (cs.getD a 0) = 0 from hc21)]) (by rw [own_run, if_neg (show ¬ own_tk (cs.getD a 0) = 0 from hc21)] at hE; exact hE) (by omega) (by omega) (by omega) D15 (Own.Ext.trans EX E15) X19 e19 K26
  exact loop (cs.length - i) i s.vm h0 0 0 s₁ (by omega) rfl hk (by omega) (by omega) (by omega) D0 (Own.Ext.refl _) X0 e0 K1

def own_pev (cs : List Int32) (i : Nat) : Int32 := if own_tev cs i = -1 then -1 else (if own_at cs (own_E own_tk cs i) 61 = 0 then -1 else (if own_at cs (own_E own_tk cs i + 1) 34 = 0 then own_tev cs (own_E own_tk cs i + 1) else own_q cs cs.length (own_E own_tk cs i + 1 + 1)))
def own_pk (cs : List Int32) (i : Nat) : Nat := own_E own_tk cs i + 1 - i + (if own_at cs (own_E own_tk cs i) 61 = 0 then 0 else (if own_at cs (own_E own_tk cs i + 1) 34 = 0 then own_E own_tk cs (own_E own_tk cs i + 1) + 1 - (own_E own_tk cs i + 1) else 0))

theorem d39_0 : decode J27 0 = .ok (.aload_n 0, 1) := by decide +kernel
theorem d39_1 : decode J27 1 = .ok (.iload_n 1, 1) := by decide +kernel
theorem d39_2 : decode J27 2 = .ok (.invokestatic 43, 3) := by decide +kernel
theorem d39_5 : decode J27 5 = .ok (.istore_n 2, 1) := by decide +kernel
theorem d39_6 : decode J27 6 = .ok (.iload_n 2, 1) := by decide +kernel
theorem d39_7 : decode J27 7 = .ok (.iconst (-1), 1) := by decide +kernel
theorem d39_8 : decode J27 8 = .ok (.if_icmp .eq 13, 3) := by decide +kernel
theorem d39_11 : decode J27 11 = .ok (.aload_n 0, 1) := by decide +kernel
theorem d39_12 : decode J27 12 = .ok (.iload_n 2, 1) := by decide +kernel
theorem d39_13 : decode J27 13 = .ok (.bipush 61, 2) := by decide +kernel
theorem d39_15 : decode J27 15 = .ok (.invokestatic 13, 3) := by decide +kernel
theorem d39_18 : decode J27 18 = .ok (.ifCond .ne 5, 3) := by decide +kernel
theorem d39_21 : decode J27 21 = .ok (.iconst (-1), 1) := by decide +kernel
theorem d39_22 : decode J27 22 = .ok (.ireturn, 1) := by decide +kernel
theorem d39_23 : decode J27 23 = .ok (.iload_n 2, 1) := by decide +kernel
theorem d39_24 : decode J27 24 = .ok (.iconst 1, 1) := by decide +kernel
theorem d39_25 : decode J27 25 = .ok (.iadd, 1) := by decide +kernel
theorem d39_26 : decode J27 26 = .ok (.istore_n 3, 1) := by decide +kernel
theorem d39_27 : decode J27 27 = .ok (.aload_n 0, 1) := by decide +kernel
theorem d39_28 : decode J27 28 = .ok (.iload_n 3, 1) := by decide +kernel
theorem d39_29 : decode J27 29 = .ok (.bipush 34, 2) := by decide +kernel
theorem d39_31 : decode J27 31 = .ok (.invokestatic 13, 3) := by decide +kernel
theorem d39_34 : decode J27 34 = .ok (.ifCond .eq 9, 3) := by decide +kernel
theorem d39_37 : decode J27 37 = .ok (.aload_n 0, 1) := by decide +kernel
theorem d39_38 : decode J27 38 = .ok (.iload_n 3, 1) := by decide +kernel
theorem d39_39 : decode J27 39 = .ok (.invokestatic 46, 3) := by decide +kernel
theorem d39_42 : decode J27 42 = .ok (.ireturn, 1) := by decide +kernel
theorem d39_43 : decode J27 43 = .ok (.aload_n 0, 1) := by decide +kernel
theorem d39_44 : decode J27 44 = .ok (.iload_n 3, 1) := by decide +kernel
theorem d39_45 : decode J27 45 = .ok (.invokestatic 43, 3) := by decide +kernel
theorem d39_48 : decode J27 48 = .ok (.ireturn, 1) := by decide +kernel
theorem pd_12 : parseMethodDescriptor "(Ljava/lang/String;I)I" = some ⟨[(.object "java/lang/String"), .int], some .int⟩ := by decide +kernel
theorem pd_13 : parseMethodDescriptor "(Ljava/lang/String;IC)Z" = some ⟨[(.object "java/lang/String"), .int, .char], some .boolean⟩ := by decide +kernel
theorem ef_39 (m : MethodId) (o0 : Addr) (p1 : Int32) : entryFrame m #[(.ref o0), (.int p1)] 4 = mkF m 0 #[.val (.ref o0), .val (.int p1), .unset, .unset] [] := by first | (simp [entryFrame, mkF, argsToLocals, Value.category]; done) | rfl
set_option maxRecDepth 65536 in
set_option maxHeartbeats 40000000 in
theorem cPE (l : Launch) (Z : State) (a0 : Array Value) (hw : ∀ d ∈ tables_1, d.before a0 Z = true) (o0 : Addr) (i : Nat) (k : Nat) (cs : List Int32) (G1 : Int32) (G3 : Value) (h0 : Heap) (TX : own_Txt Z h0 o0 cs) (SC : Sta Z h0 "java/lang/String" "COMPACT_STRINGS" "Z" (.int G1)) (hG1 : ¬ G1 = 0) (SF : Sta Z h0 "jdk/internal/util/Preconditions" "SIOOBE_FORMATTER" "Ljava/util/function/BiFunction;" G3) (rG3 : G3.isRef = true) (hi : i ≤ cs.length) (hk : own_pk cs i ≤ k) : Own.ConH l Z own_EL (⟨"com/example/pliktflow/pliktflow/deposit/MediaType", "parameterEnd", "(Ljava/lang/String;I)I"⟩ : MethodName) prog_22_method_4_code 4 (some .int) ({ frames := 6, cells := 2 * k, slots := 64 * k, locals := 86 } : Room) #[(.ref o0), (.int (Int32.ofNat i))] h0 (fun v h L => v = some (.int (own_pev cs i)) ∧ L = [] ∧ Ext h0 h) := by
  intro ws
  refine MetFree.of_bodySF (plainFor_of_name pn_2) hisR ?_
  intro p e s m args below meth c s₁ Bd hml0 hP hK
  obtain ⟨rfl, hZ, hh, hH⟩ := hP
  have hx := Bd.exec
  have hby := Bd.bytes
  have D := fun {n : Nat} {i} (d : decode prog_22_method_4_code n = .ok i) => hb hby d
  have hml : c.maxLocals = 4 := hml0
  have hown : s.vm.findClass "com/example/pliktflow/pliktflow/deposit/MediaType" = some m.cls := findClass_of_methodNamed Bd.named
  have hnm := (name_of_methodNamed Bd.named Bd.method).1
  have X0 : Stand p l e ({ frames := 6, cells := 2 * k, slots := 64 * k, locals := 86 } : Room) (s.setVm s.vm) m #[(.ref o0), (.int (Int32.ofNat i))] below meth c s₁ [] 0 0 := Stand.of_body Bd
  have e0 : s₁.heap = h0 := by rw [← hh, Bd.state]; rfl
  have D0 : Own.Wd s Z own_EL "com/example/pliktflow/pliktflow/deposit/MediaType" m.cls s.vm h0 := by rw [← hh]; exact Own.Wd.start hZ hown (by rw [hh]; exact hH)
  have K0 : ∀ t, Steps p.tables e below (s₁.setTop (mkF m 0 #[vr o0, vi (Int32.ofNat i), .unset, .unset] [])) t → Steps p.tables e below (s₁.setTop (entryFrame m #[(.ref o0), (.int (Int32.ofNat i))] 4)) t := fun t k => castTop (ef_39 m o0 (Int32.ofNat i)) k
  generalize s₁.setTop (entryFrame m #[(.ref o0), (.int (Int32.ofNat i))] 4) = B0 at K0 ⊢
  show Own.FinH p e below B0 s Z own_EL (({ frames := 6, cells := 2 * k, slots := 64 * k, locals := 86 } : Room)).cells (({ frames := 6, cells := 2 * k, slots := 64 * k, locals := 86 } : Room)).slots (fun v h L => v = some (.int (own_pev cs i)) ∧ L = [] ∧ Ext h0 h)
  have hcl := own_Txt.len TX
  have hok := own_Txt.ok TX
  have hge := own_E_ge own_tk cs i
  have hle := own_E_le own_tk cs i
  have hk1 : own_E own_tk cs i + 1 - i ≤ k := Nat.le_trans (Nat.le_add_right _ _) hk
  have K1 : Own.To p e below B0 s₁ (mkF m 2 #[vr o0, vi (Int32.ofNat i), .unset, .unset] [(.int (Int32.ofNat i)), (.ref o0)]) := fun t k => K0 t (by
    refine Own.aloadN X0 hx (D d39_0) rfl rfl ?_
    refine Own.iloadN X0 hx (D d39_1) rfl ?_
    exact k)
  obtain ⟨vm2, T2, h2, X2, e2, D2, E2, st2⟩ := Own.callEW (Ls := #[vr o0, vi (Int32.ofNat i), .unset, .unset]) X0 hx (own_hEL hw) D0 e0 [(.ref o0), (.int (Int32.ofNat i))] [] (cTE l Z a0 hw o0 i (own_E own_tk cs i + 1 - i) cs G1 G3 h0 TX SC hG1 SF rG3 (by omega) (by omega)) (W_ hw 157 rfl) (W_ hw 158 rfl) (W_ hw 45 rfl) (W_ hw 159 rfl) (by decide) 0 (Nat.le_of_ble_eq_true rfl) (Nat.le_of_ble_eq_true rfl) (by show (0 + 2 * (own_E own_tk cs i + 1 - i)) ≤ 2 * k; omega) (by show (0 + 64 * (own_E own_tk cs i + 1 - i)) ≤ 64 * k; omega) (szOf hml rfl) (lenOf pd_12 rfl) rfl (Nat.le_of_eq rfl) (D d39_2)
  have X2 : Stand p l e ({ frames := 6, cells := 2 * k, slots := 64 * k, locals := 86 } : Room) (s.setVm vm2) m #[(.ref o0), (.int (Int32.ofNat i))] below meth c T2 [] (0 + 2 * (own_E own_tk cs i + 1 - i)) (0 + 64 * (own_E own_tk cs i + 1 - i)) := X2
  have m3 : h0.size ≤ h2.size := E2.1
  have K4 := fun t k => K1 t (st2 t k)
  have K5 : Own.To p e below B0 T2 (mkF m 8 #[vr o0, vi (Int32.ofNat i), vi (own_tev cs i), .unset] [(.int (-1)), (.int (own_tev cs i))]) := fun t k => K4 t (by
    refine Own.istoreN X2 hx #[vr o0, vi (Int32.ofNat i), vi (own_tev cs i), .unset] (D d39_5) rfl ?_
    refine Own.iloadN X2 hx (D d39_6) rfl ?_
    refine Own.iconst X2 hx (-1 : Int32) (D d39_7) rfl ?_
    exact k)
  by_cases hc6 : (own_tev cs i) = (-1 : Int32)
  · have K7 : Own.To p e below B0 T2 (mkF m 22 #[vr o0, vi (Int32.ofNat i), vi (own_tev cs i), .unset] [(.int (-1))]) := fun t k => K5 t (by
      refine Own.icmpYes X2 hx 21 (D d39_8) (teq hc6).1 (by decide) (by decide) ?_
      refine Own.iconst X2 hx (-1 : Int32) (D d39_21) rfl ?_
      exact k)
    exact Own.finHI X2 hx (own_hEL hw) e2 D2 (BodyLoose.notSynchronized Bd) Bd.returns (D d39_22) K7 (by show _ ≤ 2 * k; omega) (by show _ ≤ 64 * k; omega) (by rw [e2]; exact ⟨by rw [own_pev, if_pos hc6], rfl, E2⟩)
  · have K8 : Own.To p e below B0 T2 (mkF m 11 #[vr o0, vi (Int32.ofNat i), vi (own_tev cs i), .unset] []) := fun t k => K5 t (by
      refine Own.icmpNo X2 hx (D d39_8) (feq hc6).1 ?_
      exact k)
    rw [own_tev_ne hc6] at K8
    have f9 := (TX.ext E2)
    have f10 := (SC.ext E2)
    have f11 := (SF.ext E2)
    have K12 : Own.To p e below B0 T2 (mkF m 15 #[vr o0, vi (Int32.ofNat i), vi (Int32.ofNat (own_E own_tk cs i)), .unset] [(.int 61), (.int (Int32.ofNat (own_E own_tk cs i))), (.ref o0)]) := fun t k => K8 t (by
      refine Own.aloadN X2 hx (D d39_11) rfl rfl ?_
      refine Own.iloadN X2 hx (D d39_12) rfl ?_
      refine Own.bipush X2 hx 61 (D d39_13) rfl ?_
      exact k)
    obtain ⟨T13, X13, e13, st13⟩ := Own.callP (Ls := #[vr o0, vi (Int32.ofNat i), vi (Int32.ofNat (own_E own_tk cs i)), .unset]) X2 hx D2.hZ e2 [(.ref o0), (.int (Int32.ofNat (own_E own_tk cs i))), (.int 61)] [] (cAT l Z a0 hw o0 (61 : Int32) (own_E own_tk cs i) cs G1 G3 h2 f9 f10 hG1 f11 rG3 (by omega)) D2.hown (W_ hw 102 rfl) (W_ hw 103 rfl) (W_ hw 45 rfl) (W_ hw 104 rfl) (by decide) 0 rfl rfl (Nat.le_of_ble_eq_true rfl) (Nat.le_of_ble_eq_true rfl) (by show _ ≤ 2 * k; omega) (by show _ ≤ 64 * k; omega) (szOf hml rfl) (lenOf pd_13 rfl) rfl (Nat.le_of_eq rfl) (D d39_15)
    have K14 := fun t k => K12 t (st13 t k)
    by_cases hc15 : (own_at cs (own_E own_tk cs i) (61 : Int32)) = (0 : Int32)
    · have K16 : Own.To p e below B0 T13 (mkF m 22 #[vr o0, vi (Int32.ofNat i), vi (Int32.ofNat (own_E own_tk cs i)), .unset] [(.int (-1))]) := fun t k => K14 t (by
        refine Own.ifNo X13 hx (D d39_18) ((if0 _ _).trans (teq hc15).2) ?_
        refine Own.iconst X13 hx (-1 : Int32) (D d39_21) rfl ?_
        exact k)
      exact Own.finHI X13 hx (own_hEL hw) e13 D2 (BodyLoose.notSynchronized Bd) Bd.returns (D d39_22) K16 (by show _ ≤ 2 * k; omega) (by show _ ≤ 64 * k; omega) (by rw [e13]; exact ⟨by rw [own_pev, if_neg hc6, if_pos hc15], rfl, E2⟩)
    · have K17 : Own.To p e below B0 T13 (mkF m 27 #[vr o0, vi (Int32.ofNat i), vi (Int32.ofNat (own_E own_tk cs i)), vi ((Int32.ofNat (own_E own_tk cs i)) + (1 : Int32))] []) := fun t k => K14 t (by
        refine Own.ifYes X13 hx 23 (D d39_18) ((if0 _ _).trans (feq hc15).2) (by decide) (by decide) ?_
        refine Own.iloadN X13 hx (D d39_23) rfl ?_
        refine Own.iconst X13 hx 1 (D d39_24) rfl ?_
        refine Own.iadd X13 hx (D d39_25) ?_
        refine Own.istoreN X13 hx #[vr o0, vi (Int32.ofNat i), vi (Int32.ofNat (own_E own_tk cs i)), vi ((Int32.ofNat (own_E own_tk cs i)) + (1 : Int32))] (D d39_26) rfl ?_
        exact k)
      rw [own_succ] at K17
      have hl1 := (own_atl hc15).1
      have K18 : Own.To p e below B0 T13 (mkF m 31 #[vr o0, vi (Int32.ofNat i), vi (Int32.ofNat (own_E own_tk cs i)), vi (Int32.ofNat (own_E own_tk cs i + 1))] [(.int 34), (.int (Int32.ofNat (own_E own_tk cs i + 1))), (.ref o0)]) := fun t k => K17 t (by
        refine Own.aloadN X13 hx (D d39_27) rfl rfl ?_
        refine Own.iloadN X13 hx (D d39_28) rfl ?_
        refine Own.bipush X13 hx 34 (D d39_29) rfl ?_
        exact k)
      obtain ⟨T19, X19, e19, st19⟩ := Own.callP (Ls := #[vr o0, vi (Int32.ofNat i), vi (Int32.ofNat (own_E own_tk cs i)), vi (Int32.ofNat (own_E own_tk cs i + 1))]) X13 hx D2.hZ e13 [(.ref o0), (.int (Int32.ofNat (own_E own_tk cs i + 1))), (.int 34)] [] (cAT l Z a0 hw o0 (34 : Int32) (own_E own_tk cs i + 1) cs G1 G3 h2 f9 f10 hG1 f11 rG3 (by omega)) D2.hown (W_ hw 102 rfl) (W_ hw 103 rfl) (W_ hw 45 rfl) (W_ hw 104 rfl) (by decide) 0 rfl rfl (Nat.le_of_ble_eq_true rfl) (Nat.le_of_ble_eq_true rfl) (by show _ ≤ 2 * k; omega) (by show _ ≤ 64 * k; omega) (szOf hml rfl) (lenOf pd_13 rfl) rfl (Nat.le_of_eq rfl) (D d39_31)
      have K20 := fun t k => K18 t (st19 t k)
      by_cases hc21 : (own_at cs (own_E own_tk cs i + 1) (34 : Int32)) = (0 : Int32)
      · have hk2 : own_E own_tk cs i + 1 - i + (own_E own_tk cs (own_E own_tk cs i + 1) + 1 - (own_E own_tk cs i + 1)) ≤ k := by have q := hk; rw [own_pk, if_neg hc15, if_pos hc21] at q; exact q
        have hg2 := own_E_ge own_tk cs (own_E own_tk cs i + 1)
        have K22 : Own.To p e below B0 T19 (mkF m 45 #[vr o0, vi (Int32.ofNat i), vi (Int32.ofNat (own_E own_tk cs i)), vi (Int32.ofNat (own_E own_tk cs i + 1))] [(.int (Int32.ofNat (own_E own_tk cs i + 1))), (.ref o0)]) := fun t k => K20 t (by
          refine Own.ifYes X19 hx 43 (D d39_34) ((if0 _ _).trans (teq hc21).1) (by decide) (by decide) ?_
          refine Own.aloadN X19 hx (D d39_43) rfl rfl ?_
          refine Own.iloadN X19 hx (D d39_44) rfl ?_
          exact k)
        obtain ⟨vm23, T23, h23, X23, e23, D23, E23, st23⟩ := Own.callEW (Ls := #[vr o0, vi (Int32.ofNat i), vi (Int32.ofNat (own_E own_tk cs i)), vi (Int32.ofNat (own_E own_tk cs i + 1))]) X19 hx (own_hEL hw) D2 e19 [(.ref o0), (.int (Int32.ofNat (own_E own_tk cs i + 1)))] [] (cTE l Z a0 hw o0 (own_E own_tk cs i + 1) (own_E own_tk cs (own_E own_tk cs i + 1) + 1 - (own_E own_tk cs i + 1)) cs G1 G3 h2 f9 f10 hG1 f11 rG3 (by omega) (by omega)) (W_ hw 157 rfl) (W_ hw 158 rfl) (W_ hw 45 rfl) (W_ hw 159 rfl) (by decide) 0 (Nat.le_of_ble_eq_true rfl) (Nat.le_of_ble_eq_true rfl) (by show ((0 + 2 * (own_E own_tk cs i + 1 - i)) + 2 * (own_E own_tk cs (own_E own_tk cs i + 1) + 1 - (own_E own_tk cs i + 1))) ≤ 2 * k; omega) (by show ((0 + 64 * (own_E own_tk cs i + 1 - i)) + 64 * (own_E own_tk cs (own_E own_tk cs i + 1) + 1 - (own_E own_tk cs i + 1))) ≤ 64 * k; omega) (szOf hml rfl) (lenOf pd_12 rfl) rfl (Nat.le_of_eq rfl) (D d39_45)
        have X23 : Stand p l e ({ frames := 6, cells := 2 * k, slots := 64 * k, locals := 86 } : Room) (s.setVm vm23) m #[(.ref o0), (.int (Int32.ofNat i))] below meth c T23 [] ((0 + 2 * (own_E own_tk cs i + 1 - i)) + 2 * (own_E own_tk cs (own_E own_tk cs i + 1) + 1 - (own_E own_tk cs i + 1))) ((0 + 64 * (own_E own_tk cs i + 1 - i)) + 64 * (own_E own_tk cs (own_E own_tk cs i + 1) + 1 - (own_E own_tk cs i + 1))) := X23
        have m24 : h2.size ≤ h23.size := E23.1
        have K25 := fun t k => K22 t (st23 t k)
        exact Own.finHI X23 hx (own_hEL hw) e23 D23 (BodyLoose.notSynchronized Bd) Bd.returns (D d39_48) K25 (by show _ ≤ 2 * k; omega) (by show _ ≤ 64 * k; omega) (by rw [e23]; exact ⟨by rw [own_pev, if_neg hc6, if_neg hc15, if_pos hc21], rfl, (Own.Ext.trans E2 E23)⟩)
      · have hl2 := (own_atl hc21).1
        have K26 : Own.To p e below B0 T19 (mkF m 39 #[vr o0, vi (Int32.ofNat i), vi (Int32.ofNat (own_E own_tk cs i)), vi (Int32.ofNat (own_E own_tk cs i + 1))] [(.int (Int32.ofNat (own_E own_tk cs i + 1))), (.ref o0)]) := fun t k => K20 t (by
          refine Own.ifNo X19 hx (D d39_34) ((if0 _ _).trans (feq hc21).1) ?_
          refine Own.aloadN X19 hx (D d39_37) rfl rfl ?_
          refine Own.iloadN X19 hx (D d39_38) rfl ?_
          exact k)
        obtain ⟨T27, X27, e27, st27⟩ := Own.callP (Ls := #[vr o0, vi (Int32.ofNat i), vi (Int32.ofNat (own_E own_tk cs i)), vi (Int32.ofNat (own_E own_tk cs i + 1))]) X19 hx D2.hZ e19 [(.ref o0), (.int (Int32.ofNat (own_E own_tk cs i + 1)))] [] (cQSE l Z a0 hw o0 (own_E own_tk cs i + 1) cs G1 G3 h2 f9 f10 hG1 f11 rG3 (by omega)) D2.hown (W_ hw 164 rfl) (W_ hw 165 rfl) (W_ hw 45 rfl) (W_ hw 166 rfl) (by decide) 0 rfl rfl (Nat.le_of_ble_eq_true rfl) (Nat.le_of_ble_eq_true rfl) (by show _ ≤ 2 * k; omega) (by show _ ≤ 64 * k; omega) (szOf hml rfl) (lenOf pd_12 rfl) rfl (Nat.le_of_eq rfl) (D d39_39)
        have K28 := fun t k => K26 t (st27 t k)
        exact Own.finHI X27 hx (own_hEL hw) e27 D2 (BodyLoose.notSynchronized Bd) Bd.returns (D d39_42) K28 (by show _ ≤ 2 * k; omega) (by show _ ≤ 64 * k; omega) (by rw [e27]; exact ⟨by rw [own_pev, if_neg hc6, if_neg hc15, if_neg hc21], rfl, E2⟩)

def own_acc (q : Int32) (l : List Int32) : Int32 := F8 (l.foldl F16 q)
def own_A (cs : List Int32) (q : Int32) (a : Nat) : Int32 := own_acc q (cs.drop a)
def own_lp (cs : List Int32) (a : Nat) : Int32 := if a < cs.length then own_A cs 4 a else 1
def own_wf (cs : List Int32) : Int32 := own_A cs 0 0
theorem own_A_lt {cs : List Int32} {q : Int32} {a : Nat} (h : a < cs.length) : own_A cs q a = own_A cs (F16 q (cs.getD a 0)) (a + 1) := by
  unfold own_A own_acc
  rw [List.drop_eq_getElem_cons h, List.foldl_cons, show cs.getD a 0 = cs[a] by simp [h]]
theorem own_A_ge {cs : List Int32} {q : Int32} {a : Nat} (h : cs.length ≤ a) : own_A cs q a = F8 q := by
  unfold own_A own_acc
  rw [List.drop_eq_nil_of_le h]; rfl
def own_chk (c : Int32) : Bool :=
  decide (F16 (-1) c = -1) && (decide (F16 0 c = if F23 c = 0 then -1 else 1) && (decide (F16 1 c = if own_nm c = 0 then (if c = 47 then 2 else -1) else 1) && (decide (F16 2 c = if F23 c = 0 then -1 else 3) && (decide (F16 3 c = if own_nm c = 0 then F16 4 c else 3) && (decide (F16 4 c = if F38 c = 0 then (if c = 59 then 5 else -1) else 4) && (decide (F16 5 c = if F38 c = 0 then (if c = 59 then 5 else (if own_tk c = 0 then -1 else 6)) else 5) && (decide (F16 6 c = if own_tk c = 0 then (if c = 61 then 7 else -1) else 6) && (decide (F16 7 c = if c = 34 then 9 else (if own_tk c = 0 then -1 else 8)) && (decide (F16 8 c = if own_tk c = 0 then F16 4 c else 8) && (decide (F16 9 c = if c = 34 then 10 else (if c = 92 then 11 else (if F43 c = 0 then -1 else 9))) && (decide (F16 10 c = F16 4 c) && decide (F16 11 c = if F43 c = 0 then -1 else 9))))))))))))
theorem own_chk_all : ∀ n : Nat, n < 256 → own_chk (Int32.ofNat n) = true := by decide +kernel
theorem own_st {c : Int32} (h : own_ok c) : F16 (-1) c = -1 ∧ (F16 0 c = if F23 c = 0 then -1 else 1) ∧ (F16 1 c = if own_nm c = 0 then (if c = 47 then 2 else -1) else 1) ∧ (F16 2 c = if F23 c = 0 then -1 else 3) ∧ (F16 3 c = if own_nm c = 0 then F16 4 c else 3) ∧ (F16 4 c = if F38 c = 0 then (if c = 59 then 5 else -1) else 4) ∧ (F16 5 c = if F38 c = 0 then (if c = 59 then 5 else (if own_tk c = 0 then -1 else 6)) else 5) ∧ (F16 6 c = if own_tk c = 0 then (if c = 61 then 7 else -1) else 6) ∧ (F16 7 c = if c = 34 then 9 else (if own_tk c = 0 then -1 else 8)) ∧ (F16 8 c = if own_tk c = 0 then F16 4 c else 8) ∧ (F16 9 c = if c = 34 then 10 else (if c = 92 then 11 else (if F43 c = 0 then -1 else 9))) ∧ F16 10 c = F16 4 c ∧ (F16 11 c = if F43 c = 0 then -1 else 9) := by
  obtain ⟨n, hn, rfl⟩ : ∃ n : Nat, n < 256 ∧ c = Int32.ofNat n := by
    obtain ⟨h1, h2⟩ := h
    rw [Int32.lt_iff_toInt_lt, show (0 : Int32).toInt = 0 by decide] at h1
    rw [Int32.lt_iff_toInt_lt, show (255 : Int32).toInt = 255 by decide] at h2
    exact own_nat (by omega) (by omega) (by decide)
  have q := own_chk_all n hn
  unfold own_chk at q
  simpa only [Bool.and_eq_true, decide_eq_true_eq] using q
theorem own_k : F16 1 47 = 2 ∧ F16 4 59 = 5 ∧ F16 5 59 = 5 ∧ F16 6 61 = 7 ∧ F16 7 34 = 9 := by decide +kernel
theorem own_dead {cs : List Int32} (hok : ∀ c ∈ cs, own_ok c) : ∀ n a, cs.length ≤ a + n → own_A cs (-1) a = 0
  | 0, a, h => by rw [own_A_ge (show cs.length ≤ a by omega)]; decide
  | n + 1, a, h => by
    by_cases q : a < cs.length
    · rw [own_A_lt q, (own_st (own_okg hok q)).1]; exact own_dead hok n (a + 1) (by omega)
    · rw [own_A_ge (show cs.length ≤ a by omega)]; decide
theorem own_dd {cs : List Int32} (hok : ∀ c ∈ cs, own_ok c) {a : Nat} : own_A cs (-1) a = 0 := own_dead hok cs.length a (by omega)
theorem own_runA {cs : List Int32} {f : Int32 → Int32} {q : Int32} (hf : ∀ c, own_ok c → ¬ f c = 0 → F16 q c = q) (hok : ∀ c ∈ cs, own_ok c) : ∀ n a, a + n = cs.length → own_A cs q a = own_A cs q (own_run f cs n a)
  | 0, a, _ => rfl
  | n + 1, a, h => by
    have hl : a < cs.length := by omega
    by_cases z : f (cs.getD a 0) = 0
    · rw [own_run, if_pos z]
    · rw [own_run, if_neg z, own_A_lt hl, hf _ (own_okg hok hl) z]; exact own_runA hf hok n (a + 1) (by omega)
theorem own_EA {cs : List Int32} {f : Int32 → Int32} {q : Int32} (hf : ∀ c, own_ok c → ¬ f c = 0 → F16 q c = q) (hok : ∀ c ∈ cs, own_ok c) {a : Nat} (ha : a ≤ cs.length) : own_A cs q a = own_A cs q (own_E f cs a) := own_runA hf hok (cs.length - a) a (by omega)
theorem own_f1 (c : Int32) (h : own_ok c) (q : ¬ own_nm c = 0) : F16 1 c = 1 := by rw [(own_st h).2.2.1, if_neg q]
theorem own_f3 (c : Int32) (h : own_ok c) (q : ¬ own_nm c = 0) : F16 3 c = 3 := by rw [(own_st h).2.2.2.2.1, if_neg q]
theorem own_f4 (c : Int32) (h : own_ok c) (q : ¬ F38 c = 0) : F16 4 c = 4 := by rw [(own_st h).2.2.2.2.2.1, if_neg q]
theorem own_f5 (c : Int32) (h : own_ok c) (q : ¬ F38 c = 0) : F16 5 c = 5 := by rw [(own_st h).2.2.2.2.2.2.1, if_neg q]
theorem own_f6 (c : Int32) (h : own_ok c) (q : ¬ own_tk c = 0) : F16 6 c = 6 := by rw [(own_st h).2.2.2.2.2.2.2.1, if_neg q]
theorem own_f8 (c : Int32) (h : own_ok c) (q : ¬ own_tk c = 0) : F16 8 c = 8 := by rw [(own_st h).2.2.2.2.2.2.2.2.2.1, if_neg q]
theorem own_nameA {cs : List Int32} {i : Nat} {q q' : Int32} (hok : ∀ c ∈ cs, own_ok c) (hcl : cs.length ≤ 4000) (hi : i ≤ cs.length) (h0 : F8 q = 0) (hs : ∀ c, own_ok c → F16 q c = if F23 c = 0 then -1 else q') (hs2 : ∀ c, own_ok c → ¬ own_nm c = 0 → F16 q' c = q') :
    (own_nev cs i = -1 → own_A cs q i = 0) ∧ (¬ own_nev cs i = -1 → i < cs.length ∧ own_A cs q i = own_A cs q' (own_E own_nm cs (i + 1))) := by
  by_cases h1 : i = cs.length
  · have e : own_nev cs i = -1 := if_pos h1
    exact ⟨fun _ => by rw [own_A_ge (Nat.le_of_eq h1.symm)]; exact h0, fun z => absurd e z⟩
  · have hl : i < cs.length := by omega
    have eA := own_A_lt (q := q) hl
    rw [hs _ (own_okg hok hl)] at eA
    by_cases h2 : F23 (cs.getD i 0) = 0
    · have e : own_nev cs i = -1 := by rw [own_nev, if_neg h1, if_pos h2]
      rw [if_pos h2] at eA
      exact ⟨fun _ => eA.trans (own_dd hok), fun z => absurd e z⟩
    · have e : own_nev cs i = Int32.ofNat (own_E own_nm cs (i + 1)) := by rw [own_nev, if_neg h1, if_neg h2]
      rw [if_neg h2] at eA
      have hb := own_E_le own_nm cs (i + 1)
      exact ⟨fun z => absurd (e.symm.trans z) (own_m1 (by omega)), fun _ => ⟨hl, eA.trans (own_EA hs2 hok (by omega))⟩⟩
theorem own_w1 {cs : List Int32} (hok : ∀ c ∈ cs, own_ok c) (hcl : cs.length ≤ 4000) (h : own_nev cs 0 = -1) : own_wf cs = 0 := (own_nameA hok hcl (Nat.zero_le _) (by decide) (fun c hc => (own_st hc).2.1) own_f1).1 h
theorem own_w2 {cs : List Int32} (hok : ∀ c ∈ cs, own_ok c) (hcl : cs.length ≤ 4000) (h : ¬ own_nev cs 0 = -1) : own_wf cs = own_A cs 1 (own_E own_nm cs (0 + 1)) := ((own_nameA hok hcl (Nat.zero_le _) (by decide) (fun c hc => (own_st hc).2.1) own_f1).2 h).2
theorem own_w3 {cs : List Int32} {e1 : Nat} (hok : ∀ c ∈ cs, own_ok c) (he : e1 = own_E own_nm cs (0 + 1)) (hl : 0 < cs.length) (h : own_at cs e1 47 = 0) : own_A cs 1 e1 = 0 := by
  by_cases q : e1 < cs.length
  · rw [own_A_lt q, (own_st (own_okg hok q)).2.2.1, if_pos (show own_nm (cs.getD e1 0) = 0 by rw [he] at q ⊢; exact own_E_st (by omega) q), if_neg (own_atz h q)]; exact own_dd hok
  · rw [own_A_ge (show cs.length ≤ e1 by omega)]; decide
theorem own_w4 {cs : List Int32} {e1 : Nat} (hok : ∀ c ∈ cs, own_ok c) (h : ¬ own_at cs e1 47 = 0) : own_A cs 1 e1 = own_A cs 2 (e1 + 1) := by
  obtain ⟨q, r⟩ := own_atl h
  rw [own_A_lt q, r, own_k.1]
theorem own_w5 {cs : List Int32} {i : Nat} (hok : ∀ c ∈ cs, own_ok c) (hcl : cs.length ≤ 4000) (hi : i ≤ cs.length) : (own_nev cs i = -1 → own_A cs 2 i = 0) ∧ (¬ own_nev cs i = -1 → i < cs.length ∧ own_A cs 2 i = own_A cs 3 (own_E own_nm cs (i + 1))) := own_nameA hok hcl hi (by decide) (fun c hc => (own_st hc).2.2.2.1) own_f3
theorem own_lp_ge {cs : List Int32} {a : Nat} (h : ¬ a < cs.length) : own_lp cs a = 1 := if_neg h
theorem own_lp3 {cs : List Int32} {a : Nat} (hok : ∀ c ∈ cs, own_ok c) (hs : a < cs.length → own_nm (cs.getD a 0) = 0) : own_A cs 3 a = own_lp cs a := by
  unfold own_lp
  by_cases q : a < cs.length
  · rw [if_pos q, own_A_lt q, (own_st (own_okg hok q)).2.2.2.2.1, if_pos (hs q), ← own_A_lt q]
  · rw [if_neg q, own_A_ge (show cs.length ≤ a by omega)]; decide
theorem own_lp8 {cs : List Int32} {a : Nat} (hok : ∀ c ∈ cs, own_ok c) (hs : a < cs.length → own_tk (cs.getD a 0) = 0) : own_A cs 8 a = own_lp cs a := by
  unfold own_lp
  by_cases q : a < cs.length
  · rw [if_pos q, own_A_lt q, (own_st (own_okg hok q)).2.2.2.2.2.2.2.2.2.1, if_pos (hs q), ← own_A_lt q]
  · rw [if_neg q, own_A_ge (show cs.length ≤ a by omega)]; decide
theorem own_lp10 {cs : List Int32} {a : Nat} (hok : ∀ c ∈ cs, own_ok c) : own_A cs 10 a = own_lp cs a := by
  unfold own_lp
  by_cases q : a < cs.length
  · rw [if_pos q, own_A_lt q, (own_st (own_okg hok q)).2.2.2.2.2.2.2.2.2.2.2.1, ← own_A_lt q]
  · rw [if_neg q, own_A_ge (show cs.length ≤ a by omega)]; decide
theorem own_w6 {cs : List Int32} {i : Nat} (hok : ∀ c ∈ cs, own_ok c) (hi : i ≤ cs.length) : own_A cs 3 (own_E own_nm cs i) = own_lp cs (own_E own_nm cs i) := own_lp3 hok fun q => own_E_st hi q
theorem own_l2 {cs : List Int32} {a : Nat} (hok : ∀ c ∈ cs, own_ok c) (ha : a < cs.length) (h : own_at cs (own_E F38 cs a) 59 = 0) : own_lp cs a = 0 := by
  unfold own_lp
  rw [if_pos ha, own_EA own_f4 hok (Nat.le_of_lt ha)]
  by_cases q : own_E F38 cs a < cs.length
  · rw [own_A_lt q, (own_st (own_okg hok q)).2.2.2.2.2.1, if_pos (own_E_st (Nat.le_of_lt ha) q), if_neg (own_atz h q)]; exact own_dd hok
  · rw [own_A_ge (show cs.length ≤ own_E F38 cs a by omega)]; decide
theorem own_l3 {cs : List Int32} {a : Nat} (hok : ∀ c ∈ cs, own_ok c) (ha : a < cs.length) (h : ¬ own_at cs (own_E F38 cs a) 59 = 0) : own_lp cs a = own_A cs 5 (own_E F38 cs (own_E F38 cs a + 1)) := by
  obtain ⟨q, r⟩ := own_atl h
  unfold own_lp
  rw [if_pos ha, own_EA own_f4 hok (Nat.le_of_lt ha), own_A_lt q, r, own_k.2.1]
  exact own_EA own_f5 hok q
theorem own_l4 {cs : List Int32} {w : Nat} (h : ¬ w < cs.length) : own_A cs 5 w = own_lp cs w := by
  rw [own_lp_ge h, own_A_ge (show cs.length ≤ w by omega)]; decide
theorem own_l5 {cs : List Int32} {w : Nat} (h : w < cs.length) (hc : cs.getD w 0 = 59) : own_A cs 5 w = own_lp cs w := by
  unfold own_lp
  rw [if_pos h, own_A_lt h, own_A_lt (q := 4) h, hc, own_k.2.1, own_k.2.2.1]
theorem own_qA {cs : List Int32} (hok : ∀ c ∈ cs, own_ok c) : ∀ n a, cs.length ≤ a + n → a ≤ cs.length → (own_q cs n a = -1 ∧ own_A cs 9 a = 0) ∨ (∃ p, own_q cs n a = Int32.ofNat p ∧ a < p ∧ p ≤ cs.length ∧ own_A cs 9 a = own_lp cs p)
  | 0, a, h, h2 => Or.inl ⟨rfl, by rw [own_A_ge (show cs.length ≤ a by omega)]; decide⟩
  | n + 1, a, h, h2 => by
    by_cases hl : a < cs.length
    · have eA := own_A_lt (q := 9) hl
      rw [(own_st (own_okg hok hl)).2.2.2.2.2.2.2.2.2.2.1] at eA
      by_cases c1 : cs.getD a 0 = 34
      · refine Or.inr ⟨a + 1, by rw [own_q, if_pos hl, if_pos c1], by omega, by omega, ?_⟩
        rw [eA, if_pos c1]; exact own_lp10 hok
      · by_cases c2 : cs.getD a 0 = 92
        · rw [if_neg c1, if_pos c2] at eA
          by_cases c3 : a + 1 = cs.length
          · exact Or.inl ⟨by rw [own_q, if_pos hl, if_neg c1, if_pos c2, if_pos c3], by rw [eA, own_A_ge (show cs.length ≤ a + 1 by omega)]; decide⟩
          · have hl2 : a + 1 < cs.length := by omega
            have eB := own_A_lt (q := 11) hl2
            rw [(own_st (own_okg hok hl2)).2.2.2.2.2.2.2.2.2.2.2.2] at eB
            by_cases c4 : F43 (cs.getD (a + 1) 0) = 0
            · rw [if_pos c4] at eB
              exact Or.inl ⟨by rw [own_q, if_pos hl, if_neg c1, if_pos c2, if_neg c3, if_pos c4], by rw [eA, eB]; exact own_dd hok⟩
            · rw [if_neg c4] at eB
              have ih := own_qA hok n (a + 1 + 1) (by omega) (by omega)
              rw [own_q, if_pos hl, if_neg c1, if_pos c2, if_neg c3, if_neg c4, eA, eB]
              rcases ih with ih | ⟨p, p1, p2, p3, p4⟩
              · exact Or.inl ih
              · exact Or.inr ⟨p, p1, by omega, p3, p4⟩
        · rw [if_neg c1, if_neg c2] at eA
          by_cases c4 : F43 (cs.getD a 0) = 0
          · rw [if_pos c4] at eA
            exact Or.inl ⟨by rw [own_q, if_pos hl, if_neg c1, if_neg c2, if_pos c4], by rw [eA]; exact own_dd hok⟩
          · rw [if_neg c4] at eA
            have ih := own_qA hok n (a + 1) (by omega) (by omega)
            rw [own_q, if_pos hl, if_neg c1, if_neg c2, if_neg c4, eA]
            rcases ih with ih | ⟨p, p1, p2, p3, p4⟩
            · exact Or.inl ih
            · exact Or.inr ⟨p, p1, by omega, p3, p4⟩
    · exact Or.inl ⟨by rw [own_q, if_neg hl], by rw [own_A_ge (show cs.length ≤ a by omega)]; decide⟩
theorem own_pkb {cs : List Int32} {i : Nat} (hi : i ≤ cs.length) : own_pk cs i ≤ cs.length - i + 1 := by
  unfold own_pk
  have h1 := own_E_ge own_tk cs i
  have h2 := own_E_le own_tk cs i
  by_cases c1 : own_at cs (own_E own_tk cs i) 61 = 0
  · rw [if_pos c1]; omega
  · rw [if_neg c1]
    have h3 := (own_atl c1).1
    by_cases c2 : own_at cs (own_E own_tk cs i + 1) 34 = 0
    · rw [if_pos c2]
      have h4 := own_E_ge own_tk cs (own_E own_tk cs i + 1)
      have h5 := own_E_le own_tk cs (own_E own_tk cs i + 1)
      omega
    · rw [if_neg c2]; omega
theorem own_par {cs : List Int32} {i : Nat} (hok : ∀ c ∈ cs, own_ok c) (hcl : cs.length ≤ 4000) (hi : i < cs.length) (hne : ¬ cs.getD i 0 = 59) (hws : F38 (cs.getD i 0) = 0) : (own_pev cs i = -1 ∧ own_A cs 5 i = 0) ∨ (∃ p, own_pev cs i = Int32.ofNat p ∧ i < p ∧ p ≤ cs.length ∧ own_pk cs i ≤ p - i + 1 ∧ own_A cs 5 i = own_lp cs p) := by
  have h1 := own_E_ge own_tk cs i
  have h2 := own_E_le own_tk cs i
  have eA := own_A_lt (q := 5) hi
  rw [(own_st (own_okg hok hi)).2.2.2.2.2.2.1, if_pos hws, if_neg hne] at eA
  by_cases t0 : own_E own_tk cs i = i
  · have z : own_tk (cs.getD i 0) = 0 := by have := own_E_st (f := own_tk) (Nat.le_of_lt hi) (by rw [t0]; exact hi); rwa [t0] at this
    rw [if_pos z] at eA
    exact Or.inl ⟨by rw [own_pev, if_pos (show own_tev cs i = -1 by rw [own_tev, if_pos t0])], by rw [eA]; exact own_dd hok⟩
  · have z : ¬ own_tk (cs.getD i 0) = 0 := fun z => t0 (by unfold own_E; rw [show cs.length - i = (cs.length - i - 1) + 1 by omega, own_run, if_pos z])
    rw [if_neg z] at eA
    have tv : own_tev cs i = Int32.ofNat (own_E own_tk cs i) := by rw [own_tev, if_neg t0]
    have tn : ¬ own_tev cs i = -1 := by rw [tv]; exact own_m1 (by omega)
    have eB : own_A cs 5 i = own_A cs 6 (own_E own_tk cs i) := by
      rw [eA, ← own_EA own_f6 hok (Nat.le_of_lt hi), own_A_lt (q := 6) hi, own_f6 _ (own_okg hok hi) z]
    by_cases c1 : own_at cs (own_E own_tk cs i) 61 = 0
    · refine Or.inl ⟨by rw [own_pev, if_neg tn, if_pos c1], ?_⟩
      rw [eB]
      by_cases q : own_E own_tk cs i < cs.length
      · rw [own_A_lt q, (own_st (own_okg hok q)).2.2.2.2.2.2.2.1, if_pos (own_E_st (Nat.le_of_lt hi) q), if_neg (own_atz c1 q)]; exact own_dd hok
      · rw [own_A_ge (show cs.length ≤ own_E own_tk cs i by omega)]; decide
    · obtain ⟨q, r⟩ := own_atl c1
      have eC : own_A cs 5 i = own_A cs 7 (own_E own_tk cs i + 1) := by rw [eB, own_A_lt q, r, own_k.2.2.2.1]
      by_cases c2 : own_at cs (own_E own_tk cs i + 1) 34 = 0
      · have pv : own_pev cs i = own_tev cs (own_E own_tk cs i + 1) := by rw [own_pev, if_neg tn, if_neg c1, if_pos c2]
        have pk : own_pk cs i = own_E own_tk cs i + 1 - i + (own_E own_tk cs (own_E own_tk cs i + 1) + 1 - (own_E own_tk cs i + 1)) := by rw [own_pk, if_neg c1, if_pos c2]
        rw [pv, pk, eC]
        obtain ⟨j, hj⟩ : ∃ j, j = own_E own_tk cs i + 1 := ⟨_, rfl⟩
        rw [← hj] at c2 ⊢
        have g1 := own_E_ge own_tk cs j
        have g2 := own_E_le own_tk cs j
        by_cases t1 : own_E own_tk cs j = j
        · refine Or.inl ⟨by rw [own_tev, if_pos t1], ?_⟩
          by_cases q2 : j < cs.length
          · have z2 : own_tk (cs.getD j 0) = 0 := by have := own_E_st (f := own_tk) (Nat.le_of_lt q2) (by rw [t1]; exact q2); rwa [t1] at this
            rw [own_A_lt q2, (own_st (own_okg hok q2)).2.2.2.2.2.2.2.2.1, if_neg (own_atz c2 q2), if_pos z2]; exact own_dd hok
          · rw [own_A_ge (show cs.length ≤ j by omega)]; decide
        · have q2 : j < cs.length := by
            rcases Nat.lt_or_ge j cs.length with q2 | q2
            · exact q2
            · exact absurd (by omega) t1
          have z2 : ¬ own_tk (cs.getD j 0) = 0 := fun z2 => t1 (by unfold own_E; rw [show cs.length - j = (cs.length - j - 1) + 1 by omega, own_run, if_pos z2])
          refine Or.inr ⟨own_E own_tk cs j, by rw [own_tev, if_neg t1], by omega, by omega, by omega, ?_⟩
          rw [own_A_lt q2, (own_st (own_okg hok q2)).2.2.2.2.2.2.2.2.1, if_neg (own_atz c2 q2), if_neg z2]
          have e8 : own_A cs 8 (j + 1) = own_A cs 8 j := by rw [own_A_lt (q := 8) q2, own_f8 _ (own_okg hok q2) z2]
          rw [e8, own_EA own_f8 hok (Nat.le_of_lt q2)]
          exact own_lp8 hok fun q3 => own_E_st (Nat.le_of_lt q2) q3
      · obtain ⟨q2, r2⟩ := own_atl c2
        have pv : own_pev cs i = own_q cs cs.length (own_E own_tk cs i + 1 + 1) := by rw [own_pev, if_neg tn, if_neg c1, if_neg c2]
        have pk : own_pk cs i = own_E own_tk cs i + 1 - i + 0 := by rw [own_pk, if_neg c1, if_neg c2]
        have eD : own_A cs 5 i = own_A cs 9 (own_E own_tk cs i + 1 + 1) := by rw [eC, own_A_lt q2, r2, own_k.2.2.2.2]
        rw [pv, pk, eD]
        rcases own_qA hok cs.length (own_E own_tk cs i + 1 + 1) (by omega) (by omega) with ih | ⟨p, p1, p2, p3, p4⟩
        · exact Or.inl ih
        · exact Or.inr ⟨p, p1, by omega, p3, by omega, p4⟩

theorem d9_0 : decode J25 0 = .ok (.aload_n 0, 1) := by decide +kernel
theorem d9_1 : decode J25 1 = .ok (.ifnonnull 5, 3) := by decide +kernel
theorem d9_4 : decode J25 4 = .ok (.iconst 0, 1) := by decide +kernel
theorem d9_5 : decode J25 5 = .ok (.ireturn, 1) := by decide +kernel
theorem d9_6 : decode J25 6 = .ok (.aload_n 0, 1) := by decide +kernel
theorem d9_7 : decode J25 7 = .ok (.iconst 0, 1) := by decide +kernel
theorem d9_8 : decode J25 8 = .ok (.invokestatic 7, 3) := by decide +kernel
theorem d9_11 : decode J25 11 = .ok (.istore_n 1, 1) := by decide +kernel
theorem d9_12 : decode J25 12 = .ok (.iload_n 1, 1) := by decide +kernel
theorem d9_13 : decode J25 13 = .ok (.iconst (-1), 1) := by decide +kernel
theorem d9_14 : decode J25 14 = .ok (.if_icmp .eq 13, 3) := by decide +kernel
theorem d9_17 : decode J25 17 = .ok (.aload_n 0, 1) := by decide +kernel
theorem d9_18 : decode J25 18 = .ok (.iload_n 1, 1) := by decide +kernel
theorem d9_19 : decode J25 19 = .ok (.bipush 47, 2) := by decide +kernel
theorem d9_21 : decode J25 21 = .ok (.invokestatic 13, 3) := by decide +kernel
theorem d9_24 : decode J25 24 = .ok (.ifCond .ne 5, 3) := by decide +kernel
theorem d9_27 : decode J25 27 = .ok (.iconst 0, 1) := by decide +kernel
theorem d9_28 : decode J25 28 = .ok (.ireturn, 1) := by decide +kernel
theorem d9_29 : decode J25 29 = .ok (.aload_n 0, 1) := by decide +kernel
theorem d9_30 : decode J25 30 = .ok (.iload_n 1, 1) := by decide +kernel
theorem d9_31 : decode J25 31 = .ok (.iconst 1, 1) := by decide +kernel
theorem d9_32 : decode J25 32 = .ok (.iadd, 1) := by decide +kernel
theorem d9_33 : decode J25 33 = .ok (.invokestatic 7, 3) := by decide +kernel
theorem d9_36 : decode J25 36 = .ok (.istore_n 2, 1) := by decide +kernel
theorem d9_37 : decode J25 37 = .ok (.iload_n 2, 1) := by decide +kernel
theorem d9_38 : decode J25 38 = .ok (.iconst (-1), 1) := by decide +kernel
theorem d9_39 : decode J25 39 = .ok (.if_icmp .ne 5, 3) := by decide +kernel
theorem d9_42 : decode J25 42 = .ok (.iconst 0, 1) := by decide +kernel
theorem d9_43 : decode J25 43 = .ok (.ireturn, 1) := by decide +kernel
theorem d9_44 : decode J25 44 = .ok (.iload_n 2, 1) := by decide +kernel
theorem d9_45 : decode J25 45 = .ok (.aload_n 0, 1) := by decide +kernel
theorem d9_46 : decode J25 46 = .ok (.invokevirtual 17, 3) := by decide +kernel
theorem d9_49 : decode J25 49 = .ok (.if_icmp .ge 60, 3) := by decide +kernel
theorem d9_52 : decode J25 52 = .ok (.aload_n 0, 1) := by decide +kernel
theorem d9_53 : decode J25 53 = .ok (.iload_n 2, 1) := by decide +kernel
theorem d9_54 : decode J25 54 = .ok (.invokestatic 23, 3) := by decide +kernel
theorem d9_57 : decode J25 57 = .ok (.istore_n 2, 1) := by decide +kernel
theorem d9_58 : decode J25 58 = .ok (.aload_n 0, 1) := by decide +kernel
theorem d9_59 : decode J25 59 = .ok (.iload_n 2, 1) := by decide +kernel
theorem d9_60 : decode J25 60 = .ok (.bipush 59, 2) := by decide +kernel
theorem d9_62 : decode J25 62 = .ok (.invokestatic 13, 3) := by decide +kernel
theorem d9_65 : decode J25 65 = .ok (.ifCond .ne 5, 3) := by decide +kernel
theorem d9_68 : decode J25 68 = .ok (.iconst 0, 1) := by decide +kernel
theorem d9_69 : decode J25 69 = .ok (.ireturn, 1) := by decide +kernel
theorem d9_70 : decode J25 70 = .ok (.aload_n 0, 1) := by decide +kernel
theorem d9_71 : decode J25 71 = .ok (.iload_n 2, 1) := by decide +kernel
theorem d9_72 : decode J25 72 = .ok (.iconst 1, 1) := by decide +kernel
theorem d9_73 : decode J25 73 = .ok (.iadd, 1) := by decide +kernel
theorem d9_74 : decode J25 74 = .ok (.invokestatic 23, 3) := by decide +kernel
theorem d9_77 : decode J25 77 = .ok (.istore_n 2, 1) := by decide +kernel
theorem d9_78 : decode J25 78 = .ok (.iload_n 2, 1) := by decide +kernel
theorem d9_79 : decode J25 79 = .ok (.aload_n 0, 1) := by decide +kernel
theorem d9_80 : decode J25 80 = .ok (.invokevirtual 17, 3) := by decide +kernel
theorem d9_83 : decode J25 83 = .ok (.if_icmp .ge (-39), 3) := by decide +kernel
theorem d9_86 : decode J25 86 = .ok (.aload_n 0, 1) := by decide +kernel
theorem d9_87 : decode J25 87 = .ok (.iload_n 2, 1) := by decide +kernel
theorem d9_88 : decode J25 88 = .ok (.invokevirtual 26, 3) := by decide +kernel
theorem d9_91 : decode J25 91 = .ok (.bipush 59, 2) := by decide +kernel
theorem d9_93 : decode J25 93 = .ok (.if_icmp .eq (-49), 3) := by decide +kernel
theorem d9_96 : decode J25 96 = .ok (.aload_n 0, 1) := by decide +kernel
theorem d9_97 : decode J25 97 = .ok (.iload_n 2, 1) := by decide +kernel
theorem d9_98 : decode J25 98 = .ok (.invokestatic 30, 3) := by decide +kernel
theorem d9_101 : decode J25 101 = .ok (.istore_n 2, 1) := by decide +kernel
theorem d9_102 : decode J25 102 = .ok (.iload_n 2, 1) := by decide +kernel
theorem d9_103 : decode J25 103 = .ok (.iconst (-1), 1) := by decide +kernel
theorem d9_104 : decode J25 104 = .ok (.if_icmp .ne (-60), 3) := by decide +kernel
theorem d9_107 : decode J25 107 = .ok (.iconst 0, 1) := by decide +kernel
theorem d9_108 : decode J25 108 = .ok (.ireturn, 1) := by decide +kernel
theorem d9_109 : decode J25 109 = .ok (.iconst 1, 1) := by decide +kernel
theorem d9_110 : decode J25 110 = .ok (.ireturn, 1) := by decide +kernel
theorem ef_9 (m : MethodId) (o0 : Addr) : entryFrame m #[(.ref o0)] 3 = mkF m 0 #[.val (.ref o0), .unset, .unset] [] := by first | (simp [entryFrame, mkF, argsToLocals, Value.category]; done) | rfl
set_option maxRecDepth 65536 in
set_option maxHeartbeats 40000000 in
theorem cWF (l : Launch) (Z : State) (a0 : Array Value) (hw : ∀ d ∈ tables_1, d.before a0 Z = true) (o0 : Addr) (cs : List Int32) (G1 : Int32) (G3 : Value) (h0 : Heap) (TX : own_Txt Z h0 o0 cs) (SC : Sta Z h0 "java/lang/String" "COMPACT_STRINGS" "Z" (.int G1)) (hG1 : ¬ G1 = 0) (SF : Sta Z h0 "jdk/internal/util/Preconditions" "SIOOBE_FORMATTER" "Ljava/util/function/BiFunction;" G3) (rG3 : G3.isRef = true) (hcl : cs.length ≤ 12) : Own.ConH l Z own_EL (⟨"com/example/pliktflow/pliktflow/deposit/MediaType", "isWellFormed", "(Ljava/lang/String;)Z"⟩ : MethodName) prog_22_method_2_code 3 (some .boolean) ({ frames := 7, cells := 24, slots := 768, locals := 101 } : Room) #[(.ref o0)] h0 (fun v h L => v = some (.int (own_wf cs)) ∧ L = [] ∧ Ext h0 h) := by
  intro ws
  refine MetFree.of_bodySF (plainFor_of_name pn_2) hisR ?_
  intro p e s m args below meth c s₁ Bd hml0 hP hK
  obtain ⟨rfl, hZ, hh, hH⟩ := hP
  have hx := Bd.exec
  have hby := Bd.bytes
  have D := fun {n : Nat} {i} (d : decode prog_22_method_2_code n = .ok i) => hb hby d
  have hml : c.maxLocals = 3 := hml0
  have hown : s.vm.findClass "com/example/pliktflow/pliktflow/deposit/MediaType" = some m.cls := findClass_of_methodNamed Bd.named
  have hnm := (name_of_methodNamed Bd.named Bd.method).1
  have X0 : Stand p l e ({ frames := 7, cells := 24, slots := 768, locals := 101 } : Room) (s.setVm s.vm) m #[(.ref o0)] below meth c s₁ [] 0 0 := Stand.of_body Bd
  have e0 : s₁.heap = h0 := by rw [← hh, Bd.state]; rfl
  have D0 : Own.Wd s Z own_EL "com/example/pliktflow/pliktflow/deposit/MediaType" m.cls s.vm h0 := by rw [← hh]; exact Own.Wd.start hZ hown (by rw [hh]; exact hH)
  have K0 : ∀ t, Steps p.tables e below (s₁.setTop (mkF m 0 #[vr o0, .unset, .unset] [])) t → Steps p.tables e below (s₁.setTop (entryFrame m #[(.ref o0)] 3)) t := fun t k => castTop (ef_9 m o0) k
  generalize s₁.setTop (entryFrame m #[(.ref o0)] 3) = B0 at K0 ⊢
  show Own.FinH p e below B0 s Z own_EL (({ frames := 7, cells := 24, slots := 768, locals := 101 } : Room)).cells (({ frames := 7, cells := 24, slots := 768, locals := 101 } : Room)).slots (fun v h L => v = some (.int (own_wf cs)) ∧ L = [] ∧ Ext h0 h)
  have hok := own_Txt.ok TX
  have hcl4 : cs.length ≤ 4000 := own_Txt.len TX
  obtain ⟨e1, he1⟩ : ∃ z, z = own_E own_nm cs (0 + 1) := ⟨_, rfl⟩
  have h1le := own_E_le own_nm cs (0 + 1)
  have K1 : Own.To p e below B0 s₁ (mkF m 8 #[vr o0, .unset, .unset] [(.int 0), (.ref o0)]) := fun t k => K0 t (by
    refine Own.aloadN X0 hx (D d9_0) rfl rfl ?_
    refine Own.ifnonnullYes X0 hx 6 (D d9_1) (by decide) (by decide) ?_
    refine Own.aloadN X0 hx (D d9_6) rfl rfl ?_
    refine Own.iconst X0 hx 0 (D d9_7) rfl ?_
    exact k)
  obtain ⟨vm2, T2, h2, X2, e2, D2, E2, st2⟩ := Own.callEW (Ls := #[vr o0, .unset, .unset]) X0 hx (own_hEL hw) D0 e0 [(.ref o0), (.int 0)] [] (cNE l Z a0 hw o0 0 (e1) cs G1 G3 h0 TX SC hG1 SF rG3 (by omega) (by omega)) (W_ hw 47 rfl) (W_ hw 48 rfl) (W_ hw 45 rfl) (W_ hw 49 rfl) (by decide) 0 (Nat.le_of_ble_eq_true rfl) (Nat.le_of_ble_eq_true rfl) (by show (0 + 2 * (e1)) ≤ 24; omega) (by show (0 + 40 * (e1)) ≤ 768; omega) (szOf hml rfl) (lenOf pd_12 rfl) rfl (Nat.le_of_eq rfl) (D d9_8)
  have X2 : Stand p l e ({ frames := 7, cells := 24, slots := 768, locals := 101 } : Room) (s.setVm vm2) m #[(.ref o0)] below meth c T2 [] (0 + 2 * (e1)) (0 + 40 * (e1)) := X2
  have m3 : h0.size ≤ h2.size := E2.1
  have K4 := fun t k => K1 t (st2 t k)
  have K5 : Own.To p e below B0 T2 (mkF m 14 #[vr o0, vi (own_nev cs 0), .unset] [(.int (-1)), (.int (own_nev cs 0))]) := fun t k => K4 t (by
    refine Own.istoreN X2 hx #[vr o0, vi (own_nev cs 0), .unset] (D d9_11) rfl ?_
    refine Own.iloadN X2 hx (D d9_12) rfl ?_
    refine Own.iconst X2 hx (-1 : Int32) (D d9_13) rfl ?_
    exact k)
  by_cases hc6 : (own_nev cs 0) = (-1 : Int32)
  · have K7 : Own.To p e below B0 T2 (mkF m 28 #[vr o0, vi (own_nev cs 0), .unset] [(.int 0)]) := fun t k => K5 t (by
      refine Own.icmpYes X2 hx 27 (D d9_14) (teq hc6).1 (by decide) (by decide) ?_
      refine Own.iconst X2 hx 0 (D d9_27) rfl ?_
      exact k)
    exact Own.finHN X2 hx (own_hEL hw) e2 D2 (BodyLoose.notSynchronized Bd) Bd.returns (by simp) (D d9_28) K7 (by show _ ≤ 24; omega) (by show _ ≤ 768; omega) (by rw [e2]; exact ⟨by rw [own_w1 hok hcl4 hc6]; rfl, rfl, E2⟩)
  · have K8 : Own.To p e below B0 T2 (mkF m 17 #[vr o0, vi (own_nev cs 0), .unset] []) := fun t k => K5 t (by
      refine Own.icmpNo X2 hx (D d9_14) (feq hc6).1 ?_
      exact k)
    have q1 : own_nev cs 0 = Int32.ofNat e1 := by rw [he1]; exact own_nev_ne hc6
    rw [q1] at K8
    have hw2 : own_wf cs = own_A cs 1 e1 := by rw [he1]; exact own_w2 hok hcl4 hc6
    have hl0 := ((own_nameA hok hcl4 (Nat.zero_le _) (by decide) (fun c hc => (own_st hc).2.1) own_f1).2 hc6).1
    have f9 := (TX.ext E2)
    have f10 := (SC.ext E2)
    have f11 := (SF.ext E2)
    have K12 : Own.To p e below B0 T2 (mkF m 21 #[vr o0, vi (Int32.ofNat e1), .unset] [(.int 47), (.int (Int32.ofNat e1)), (.ref o0)]) := fun t k => K8 t (by
      refine Own.aloadN X2 hx (D d9_17) rfl rfl ?_
      refine Own.iloadN X2 hx (D d9_18) rfl ?_
      refine Own.bipush X2 hx 47 (D d9_19) rfl ?_
      exact k)
    obtain ⟨T13, X13, e13, st13⟩ := Own.callP (Ls := #[vr o0, vi (Int32.ofNat e1), .unset]) X2 hx D2.hZ e2 [(.ref o0), (.int (Int32.ofNat e1)), (.int 47)] [] (cAT l Z a0 hw o0 (47 : Int32) e1 cs G1 G3 h2 f9 f10 hG1 f11 rG3 (by omega)) D2.hown (W_ hw 102 rfl) (W_ hw 103 rfl) (W_ hw 45 rfl) (W_ hw 104 rfl) (by decide) 0 rfl rfl (Nat.le_of_ble_eq_true rfl) (Nat.le_of_ble_eq_true rfl) (by show _ ≤ 24; omega) (by show _ ≤ 768; omega) (szOf hml rfl) (lenOf pd_13 rfl) rfl (Nat.le_of_eq rfl) (D d9_21)
    have K14 := fun t k => K12 t (st13 t k)
    by_cases hc15 : (own_at cs e1 (47 : Int32)) = (0 : Int32)
    · have K16 : Own.To p e below B0 T13 (mkF m 28 #[vr o0, vi (Int32.ofNat e1), .unset] [(.int 0)]) := fun t k => K14 t (by
        refine Own.ifNo X13 hx (D d9_24) ((if0 _ _).trans (teq hc15).2) ?_
        refine Own.iconst X13 hx 0 (D d9_27) rfl ?_
        exact k)
      exact Own.finHN X13 hx (own_hEL hw) e13 D2 (BodyLoose.notSynchronized Bd) Bd.returns (by simp) (D d9_28) K16 (by show _ ≤ 24; omega) (by show _ ≤ 768; omega) (by rw [e13]; exact ⟨by rw [hw2, own_w3 hok he1 hl0 hc15]; rfl, rfl, E2⟩)
    · have K17 : Own.To p e below B0 T13 (mkF m 33 #[vr o0, vi (Int32.ofNat e1), .unset] [(.int ((Int32.ofNat e1) + (1 : Int32))), (.ref o0)]) := fun t k => K14 t (by
        refine Own.ifYes X13 hx 29 (D d9_24) ((if0 _ _).trans (feq hc15).2) (by decide) (by decide) ?_
        refine Own.aloadN X13 hx (D d9_29) rfl rfl ?_
        refine Own.iloadN X13 hx (D d9_30) rfl ?_
        refine Own.iconst X13 hx 1 (D d9_31) rfl ?_
        refine Own.iadd X13 hx (D d9_32) ?_
        exact k)
      rw [own_succ] at K17
      have hw4 := hw2.trans (own_w4 hok hc15)
      have hlt1 := (own_atl hc15).1
      obtain ⟨e2, he2⟩ : ∃ z, z = own_E own_nm cs (e1 + 1 + 1) := ⟨_, rfl⟩
      have h2le := own_E_le own_nm cs (e1 + 1 + 1)
      have h2ge := own_E_ge own_nm cs (e1 + 1 + 1)
      obtain ⟨vm18, T18, h18, X18, e18, D18, E18, st18⟩ := Own.callEW (Ls := #[vr o0, vi (Int32.ofNat e1), .unset]) X13 hx (own_hEL hw) D2 e13 [(.ref o0), (.int (Int32.ofNat (e1 + 1)))] [] (cNE l Z a0 hw o0 (e1 + 1) (e2 - (e1 + 1)) cs G1 G3 h2 f9 f10 hG1 f11 rG3 (by omega) (by omega)) (W_ hw 47 rfl) (W_ hw 48 rfl) (W_ hw 45 rfl) (W_ hw 49 rfl) (by decide) 0 (Nat.le_of_ble_eq_true rfl) (Nat.le_of_ble_eq_true rfl) (by show ((0 + 2 * (e1)) + 2 * (e2 - (e1 + 1))) ≤ 24; omega) (by show ((0 + 40 * (e1)) + 40 * (e2 - (e1 + 1))) ≤ 768; omega) (szOf hml rfl) (lenOf pd_12 rfl) rfl (Nat.le_of_eq rfl) (D d9_33)
      have X18 : Stand p l e ({ frames := 7, cells := 24, slots := 768, locals := 101 } : Room) (s.setVm vm18) m #[(.ref o0)] below meth c T18 [] ((0 + 2 * (e1)) + 2 * (e2 - (e1 + 1))) ((0 + 40 * (e1)) + 40 * (e2 - (e1 + 1))) := X18
      have m19 : h2.size ≤ h18.size := E18.1
      have K20 := fun t k => K17 t (st18 t k)
      have K21 : Own.To p e below B0 T18 (mkF m 39 #[vr o0, vi (Int32.ofNat e1), vi (own_nev cs (e1 + 1))] [(.int (-1)), (.int (own_nev cs (e1 + 1)))]) := fun t k => K20 t (by
        refine Own.istoreN X18 hx #[vr o0, vi (Int32.ofNat e1), vi (own_nev cs (e1 + 1))] (D d9_36) rfl ?_
        refine Own.iloadN X18 hx (D d9_37) rfl ?_
        refine Own.iconst X18 hx (-1 : Int32) (D d9_38) rfl ?_
        exact k)
      by_cases hc22 : (own_nev cs (e1 + 1)) = (-1 : Int32)
      · have K23 : Own.To p e below B0 T18 (mkF m 43 #[vr o0, vi (Int32.ofNat e1), vi (own_nev cs (e1 + 1))] [(.int 0)]) := fun t k => K21 t (by
          refine Own.icmpNo X18 hx (D d9_39) (teq hc22).2 ?_
          refine Own.iconst X18 hx 0 (D d9_42) rfl ?_
          exact k)
        exact Own.finHN X18 hx (own_hEL hw) e18 D18 (BodyLoose.notSynchronized Bd) Bd.returns (by simp) (D d9_43) K23 (by show _ ≤ 24; omega) (by show _ ≤ 768; omega) (by rw [e18]; exact ⟨by rw [hw4, (own_w5 hok hcl4 hlt1).1 hc22]; rfl, rfl, (Own.Ext.trans E2 E18)⟩)
      · have K24 : Own.To p e below B0 T18 (mkF m 44 #[vr o0, vi (Int32.ofNat e1), vi (own_nev cs (e1 + 1))] []) := fun t k => K21 t (by
          refine Own.icmpYes X18 hx 44 (D d9_39) (feq hc22).2 (by decide) (by decide) ?_
          exact k)
        have q2 : own_nev cs (e1 + 1) = Int32.ofNat e2 := by rw [he2]; exact own_nev_ne hc22
        rw [q2] at K24
        have hw5 := (own_w5 hok hcl4 hlt1).2 hc22
        have hw6 : own_wf cs = own_lp cs e2 := by rw [hw4, hw5.2, he2]; exact own_w6 hok hw5.1
        have hw7 := hw5.1
        have loop : ∀ (n : Nat) (a : Nat) (vmx : Vm) (hh : Heap) (cells slots : Nat) (T : State), cs.length ≤ a + n → a ≤ cs.length → own_wf cs = own_lp cs a → cells ≤ 2 * a → slots ≤ 64 * a → Own.Wd s Z own_EL "com/example/pliktflow/pliktflow/deposit/MediaType" m.cls vmx hh → Ext h0 hh → Stand p l e ({ frames := 7, cells := 24, slots := 768, locals := 101 } : Room) (s.setVm vmx) m #[(.ref o0)] below meth c T [] cells slots → T.heap = hh → (∀ t, Steps p.tables e below (T.setTop (mkF m 44 #[vr o0, vi (Int32.ofNat e1), vi (Int32.ofNat a)] [])) t → Steps p.tables e below B0 t) → Own.FinH p e below B0 s Z own_EL (({ frames := 7, cells := 24, slots := 768, locals := 101 } : Room)).cells (({ frames := 7, cells := 24, slots := 768, locals := 101 } : Room)).slots (fun v h L => v = some (.int (own_wf cs)) ∧ L = [] ∧ Ext h0 h) := by
          intro n
          induction n with
          | zero =>
            intro a vmx hh cells slots T ha hal0 hR hc1 hc2 Dx EX X eT K
            have TXh := TX.ext EX
            have SCh := SC.ext EX
            have SFh := SF.ext EX
            have K25 : Own.To p e below B0 T (mkF m 46 #[vr o0, vi (Int32.ofNat e1), vi (Int32.ofNat a)] [(.ref o0), (.int (Int32.ofNat a))]) := fun t k => K t (by
              refine Own.iloadN X hx (D d9_44) rfl ?_
              refine Own.aloadN X hx (D d9_45) rfl rfl ?_
              exact k)
            obtain ⟨T26, X26, e26, st26⟩ := own_lenW (Ls := #[vr o0, vi (Int32.ofNat e1), vi (Int32.ofNat a)]) X hx Dx.hZ eT hw (W_ hw 17 rfl) Dx.hown TXh SCh hG1  (W_ hw 50 rfl) (W_ hw 51 rfl) (W_ hw 53 rfl) (W_ hw 52 rfl) [(.int (Int32.ofNat a))] 1 (Nat.le_of_ble_eq_true rfl) (Nat.le_of_ble_eq_true rfl) (by show _ ≤ 24; omega) (by show _ ≤ 768; omega) (by rw [hml]; rfl) (lenOf pd_9 rfl) (Nat.le_of_eq rfl) (D d9_46)
            have K27 := fun t k => K25 t (st26 t k)
            have K28 : Own.To p e below B0 T26 (mkF m 110 #[vr o0, vi (Int32.ofNat e1), vi (Int32.ofNat a)] [(.int 1)]) := fun t k => K27 t (by
              refine Own.icmpYes X26 hx 109 (D d9_49) (flt (fun q => absurd ((own_lt (by omega) (by omega)).mp q) (by omega) : ¬ ((Int32.ofNat a) < (Int32.ofNat cs.length)))).2.1 (by decide) (by decide) ?_
              refine Own.iconst X26 hx 1 (D d9_109) rfl ?_
              exact k)
            have hz : own_wf cs = 1 := by rw [hR]; exact own_lp_ge (by omega)
            exact Own.finHN X26 hx (own_hEL hw) e26 Dx (BodyLoose.notSynchronized Bd) Bd.returns (by simp) (D d9_110) K28 (by show _ ≤ 24; omega) (by show _ ≤ 768; omega) (by rw [e26]; exact ⟨by rw [hz]; rfl, rfl, EX⟩)
          | succ n ih =>
            intro a vmx hh cells slots T ha hal0 hR hc1 hc2 Dx EX X eT K
            have TXh := TX.ext EX
            have SCh := SC.ext EX
            have SFh := SF.ext EX
            have K29 : Own.To p e below B0 T (mkF m 46 #[vr o0, vi (Int32.ofNat e1), vi (Int32.ofNat a)] [(.ref o0), (.int (Int32.ofNat a))]) := fun t k => K t (by
              refine Own.iloadN X hx (D d9_44) rfl ?_
              refine Own.aloadN X hx (D d9_45) rfl rfl ?_
              exact k)
            obtain ⟨T30, X30, e30, st30⟩ := own_lenW (Ls := #[vr o0, vi (Int32.ofNat e1), vi (Int32.ofNat a)]) X hx Dx.hZ eT hw (W_ hw 17 rfl) Dx.hown TXh SCh hG1  (W_ hw 50 rfl) (W_ hw 51 rfl) (W_ hw 53 rfl) (W_ hw 52 rfl) [(.int (Int32.ofNat a))] 1 (Nat.le_of_ble_eq_true rfl) (Nat.le_of_ble_eq_true rfl) (by show _ ≤ 24; omega) (by show _ ≤ 768; omega) (by rw [hml]; rfl) (lenOf pd_9 rfl) (Nat.le_of_eq rfl) (D d9_46)
            have K31 := fun t k => K29 t (st30 t k)
            by_cases hc32 : (Int32.ofNat a) < (Int32.ofNat cs.length)
            · have hal := (own_lt (by omega) (by omega)).mp hc32
              obtain ⟨w, hWw⟩ : ∃ z, z = own_E F38 cs a := ⟨_, rfl⟩
              have wge := own_E_ge F38 cs a
              have wle := own_E_le F38 cs a
              have K33 : Own.To p e below B0 T30 (mkF m 54 #[vr o0, vi (Int32.ofNat e1), vi (Int32.ofNat a)] [(.int (Int32.ofNat a)), (.ref o0)]) := fun t k => K31 t (by
                refine Own.icmpNo X30 hx (D d9_49) (tlt hc32).2.1 ?_
                refine Own.aloadN X30 hx (D d9_52) rfl rfl ?_
                refine Own.iloadN X30 hx (D d9_53) rfl ?_
                exact k)
              obtain ⟨T34, X34, e34, st34⟩ := Own.callP (Ls := #[vr o0, vi (Int32.ofNat e1), vi (Int32.ofNat a)]) X30 hx Dx.hZ e30 [(.ref o0), (.int (Int32.ofNat a))] [] (cWSE l Z a0 hw o0 a cs G1 G3 hh TXh SCh hG1 SFh rG3 (by omega)) Dx.hown (W_ hw 148 rfl) (W_ hw 149 rfl) (W_ hw 45 rfl) (W_ hw 150 rfl) (by decide) 0 rfl rfl (Nat.le_of_ble_eq_true rfl) (Nat.le_of_ble_eq_true rfl) (by show _ ≤ 24; omega) (by show _ ≤ 768; omega) (szOf hml rfl) (lenOf pd_12 rfl) rfl (Nat.le_of_eq rfl) (D d9_54)
              have K35 := fun t k => K33 t (st34 t k)
              rw [← hWw] at K35
              have K36 : Own.To p e below B0 T34 (mkF m 62 #[vr o0, vi (Int32.ofNat e1), vi (Int32.ofNat w)] [(.int 59), (.int (Int32.ofNat w)), (.ref o0)]) := fun t k => K35 t (by
                refine Own.istoreN X34 hx #[vr o0, vi (Int32.ofNat e1), vi (Int32.ofNat w)] (D d9_57) rfl ?_
                refine Own.aloadN X34 hx (D d9_58) rfl rfl ?_
                refine Own.iloadN X34 hx (D d9_59) rfl ?_
                refine Own.bipush X34 hx 59 (D d9_60) rfl ?_
                exact k)
              obtain ⟨T37, X37, e37, st37⟩ := Own.callP (Ls := #[vr o0, vi (Int32.ofNat e1), vi (Int32.ofNat w)]) X34 hx Dx.hZ e34 [(.ref o0), (.int (Int32.ofNat w)), (.int 59)] [] (cAT l Z a0 hw o0 (59 : Int32) w cs G1 G3 hh TXh SCh hG1 SFh rG3 (by omega)) Dx.hown (W_ hw 102 rfl) (W_ hw 103 rfl) (W_ hw 45 rfl) (W_ hw 104 rfl) (by decide) 0 rfl rfl (Nat.le_of_ble_eq_true rfl) (Nat.le_of_ble_eq_true rfl) (by show _ ≤ 24; omega) (by show _ ≤ 768; omega) (szOf hml rfl) (lenOf pd_13 rfl) rfl (Nat.le_of_eq rfl) (D d9_62)
              have K38 := fun t k => K36 t (st37 t k)
              by_cases hc39 : (own_at cs w (59 : Int32)) = (0 : Int32)
              · have K40 : Own.To p e below B0 T37 (mkF m 69 #[vr o0, vi (Int32.ofNat e1), vi (Int32.ofNat w)] [(.int 0)]) := fun t k => K38 t (by
                  refine Own.ifNo X37 hx (D d9_65) ((if0 _ _).trans (teq hc39).2) ?_
                  refine Own.iconst X37 hx 0 (D d9_68) rfl ?_
                  exact k)
                have hz : own_wf cs = 0 := by rw [hR]; exact own_l2 hok hal (by rw [← hWw]; exact hc39)
                exact Own.finHN X37 hx (own_hEL hw) e37 Dx (BodyLoose.notSynchronized Bd) Bd.returns (by simp) (D d9_69) K40 (by show _ ≤ 24; omega) (by show _ ≤ 768; omega) (by rw [e37]; exact ⟨by rw [hz]; rfl, rfl, EX⟩)
              · have K41 : Own.To p e below B0 T37 (mkF m 74 #[vr o0, vi (Int32.ofNat e1), vi (Int32.ofNat w)] [(.int ((Int32.ofNat w) + (1 : Int32))), (.ref o0)]) := fun t k => K38 t (by
                  refine Own.ifYes X37 hx 70 (D d9_65) ((if0 _ _).trans (feq hc39).2) (by decide) (by decide) ?_
                  refine Own.aloadN X37 hx (D d9_70) rfl rfl ?_
                  refine Own.iloadN X37 hx (D d9_71) rfl ?_
                  refine Own.iconst X37 hx 1 (D d9_72) rfl ?_
                  refine Own.iadd X37 hx (D d9_73) ?_
                  exact k)
                rw [own_succ] at K41
                have hwl := (own_atl hc39).1
                obtain ⟨w2, hW2⟩ : ∃ z, z = own_E F38 cs (w + 1) := ⟨_, rfl⟩
                have w2ge := own_E_ge F38 cs (w + 1)
                have w2le := own_E_le F38 cs (w + 1)
                have hR3 : own_wf cs = own_A cs 5 w2 := by rw [hR, hW2, hWw]; exact own_l3 hok hal (by rw [← hWw]; exact hc39)
                obtain ⟨T42, X42, e42, st42⟩ := Own.callP (Ls := #[vr o0, vi (Int32.ofNat e1), vi (Int32.ofNat w)]) X37 hx Dx.hZ e37 [(.ref o0), (.int (Int32.ofNat (w + 1)))] [] (cWSE l Z a0 hw o0 (w + 1) cs G1 G3 hh TXh SCh hG1 SFh rG3 (by omega)) Dx.hown (W_ hw 148 rfl) (W_ hw 149 rfl) (W_ hw 45 rfl) (W_ hw 150 rfl) (by decide) 0 rfl rfl (Nat.le_of_ble_eq_true rfl) (Nat.le_of_ble_eq_true rfl) (by show _ ≤ 24; omega) (by show _ ≤ 768; omega) (szOf hml rfl) (lenOf pd_12 rfl) rfl (Nat.le_of_eq rfl) (D d9_74)
                have K43 := fun t k => K41 t (st42 t k)
                rw [← hW2] at K43
                have K44 : Own.To p e below B0 T42 (mkF m 80 #[vr o0, vi (Int32.ofNat e1), vi (Int32.ofNat w2)] [(.ref o0), (.int (Int32.ofNat w2))]) := fun t k => K43 t (by
                  refine Own.istoreN X42 hx #[vr o0, vi (Int32.ofNat e1), vi (Int32.ofNat w2)] (D d9_77) rfl ?_
                  refine Own.iloadN X42 hx (D d9_78) rfl ?_
                  refine Own.aloadN X42 hx (D d9_79) rfl rfl ?_
                  exact k)
                obtain ⟨T45, X45, e45, st45⟩ := own_lenW (Ls := #[vr o0, vi (Int32.ofNat e1), vi (Int32.ofNat w2)]) X42 hx Dx.hZ e42 hw (W_ hw 17 rfl) Dx.hown TXh SCh hG1  (W_ hw 50 rfl) (W_ hw 51 rfl) (W_ hw 53 rfl) (W_ hw 52 rfl) [(.int (Int32.ofNat w2))] 1 (Nat.le_of_ble_eq_true rfl) (Nat.le_of_ble_eq_true rfl) (by show _ ≤ 24; omega) (by show _ ≤ 768; omega) (by rw [hml]; rfl) (lenOf pd_9 rfl) (Nat.le_of_eq rfl) (D d9_80)
                have K46 := fun t k => K44 t (st45 t k)
                by_cases hc47 : (Int32.ofNat w2) < (Int32.ofNat cs.length)
                · have K48 : Own.To p e below B0 T45 (mkF m 88 #[vr o0, vi (Int32.ofNat e1), vi (Int32.ofNat w2)] [(.int (Int32.ofNat w2)), (.ref o0)]) := fun t k => K46 t (by
                    refine Own.icmpNo X45 hx (D d9_83) (tlt hc47).2.1 ?_
                    refine Own.aloadN X45 hx (D d9_86) rfl rfl ?_
                    refine Own.iloadN X45 hx (D d9_87) rfl ?_
                    exact k)
                  obtain ⟨T49, X49, e49, st49⟩ := own_chN (Ls := #[vr o0, vi (Int32.ofNat e1), vi (Int32.ofNat w2)]) X45 hx Dx.hZ e45 hw (W_ hw 17 rfl) Dx.hown TXh SCh hG1 SFh rG3 (i := w2) (j := (Int32.ofNat w2)) ((own_lt (by omega) (by omega)).mp hc47) rfl (W_ hw 77 rfl) (W_ hw 78 rfl) (W_ hw 80 rfl) (W_ hw 79 rfl) [] 0 (Nat.le_of_ble_eq_true rfl) (Nat.le_of_ble_eq_true rfl) (by show _ ≤ 24; omega) (by show _ ≤ 768; omega) (by rw [hml]; rfl) (lenOf pd_1 rfl) (Nat.le_of_eq rfl) (D d9_88)
                  have K50 := fun t k => K48 t (st49 t k)
                  have K51 : Own.To p e below B0 T49 (mkF m 93 #[vr o0, vi (Int32.ofNat e1), vi (Int32.ofNat w2)] [(.int 59), (.int (cs.getD w2 0))]) := fun t k => K50 t (by
                    refine Own.bipush X49 hx 59 (D d9_91) rfl ?_
                    exact k)
                  by_cases hc52 : (cs.getD w2 0) = (59 : Int32)
                  · have K53 : Own.To p e below B0 T49 (mkF m 44 #[vr o0, vi (Int32.ofNat e1), vi (Int32.ofNat w2)] []) := fun t k => K51 t (by
                      refine Own.icmpYes X49 hx 44 (D d9_93) (teq hc52).1 (by decide) (by decide) ?_
                      exact k)
                    exact ih w2 vmx hh cells slots T49 (by omega) (by omega) (hR3.trans (own_l5 ((own_lt (by omega) (by omega)).mp hc47) hc52)) (by omega) (by omega) Dx EX X49 e49 K53
                  · have hlt2 := (own_lt (by omega) (by omega)).mp hc47
                    have hpb := own_pkb (cs := cs) (i := w2) (Nat.le_of_lt hlt2)
                    have hpar := own_par hok hcl4 hlt2 hc52 (by rw [hW2] at hlt2 ⊢; exact own_E_st hwl hlt2)
                    have K54 : Own.To p e below B0 T49 (mkF m 98 #[vr o0, vi (Int32.ofNat e1), vi (Int32.ofNat w2)] [(.int (Int32.ofNat w2)), (.ref o0)]) := fun t k => K51 t (by
                      refine Own.icmpNo X49 hx (D d9_93) (feq hc52).1 ?_
                      refine Own.aloadN X49 hx (D d9_96) rfl rfl ?_
                      refine Own.iloadN X49 hx (D d9_97) rfl ?_
                      exact k)
                    obtain ⟨vm55, T55, h55, X55, e55, D55, E55, st55⟩ := Own.callEW (Ls := #[vr o0, vi (Int32.ofNat e1), vi (Int32.ofNat w2)]) X49 hx (own_hEL hw) Dx e49 [(.ref o0), (.int (Int32.ofNat w2))] [] (cPE l Z a0 hw o0 w2 (own_pk cs w2) cs G1 G3 hh TXh SCh hG1 SFh rG3 (by omega) (Nat.le_refl _)) (W_ hw 154 rfl) (W_ hw 155 rfl) (W_ hw 45 rfl) (W_ hw 156 rfl) (by decide) 0 (Nat.le_of_ble_eq_true rfl) (Nat.le_of_ble_eq_true rfl) (by show (cells + 2 * (own_pk cs w2)) ≤ 24; omega) (by show (slots + 64 * (own_pk cs w2)) ≤ 768; omega) (szOf hml rfl) (lenOf pd_12 rfl) rfl (Nat.le_of_eq rfl) (D d9_98)
                    have X55 : Stand p l e ({ frames := 7, cells := 24, slots := 768, locals := 101 } : Room) (s.setVm vm55) m #[(.ref o0)] below meth c T55 [] (cells + 2 * (own_pk cs w2)) (slots + 64 * (own_pk cs w2)) := X55
                    have m56 : hh.size ≤ h55.size := E55.1
                    have K57 := fun t k => K54 t (st55 t k)
                    have K58 : Own.To p e below B0 T55 (mkF m 104 #[vr o0, vi (Int32.ofNat e1), vi (own_pev cs w2)] [(.int (-1)), (.int (own_pev cs w2))]) := fun t k => K57 t (by
                      refine Own.istoreN X55 hx #[vr o0, vi (Int32.ofNat e1), vi (own_pev cs w2)] (D d9_101) rfl ?_
                      refine Own.iloadN X55 hx (D d9_102) rfl ?_
                      refine Own.iconst X55 hx (-1 : Int32) (D d9_103) rfl ?_
                      exact k)
                    by_cases hc59 : (own_pev cs w2) = (-1 : Int32)
                    · have K60 : Own.To p e below B0 T55 (mkF m 108 #[vr o0, vi (Int32.ofNat e1), vi (own_pev cs w2)] [(.int 0)]) := fun t k => K58 t (by
                        refine Own.icmpNo X55 hx (D d9_104) (teq hc59).2 ?_
                        refine Own.iconst X55 hx 0 (D d9_107) rfl ?_
                        exact k)
                      have hz : own_wf cs = 0 := by rw [hR3]; rcases hpar with q | ⟨p, p1, p2, p3, -⟩; exact q.2; exact absurd (p1.symm.trans hc59) (own_m1 (by omega))
                      exact Own.finHN X55 hx (own_hEL hw) e55 D55 (BodyLoose.notSynchronized Bd) Bd.returns (by simp) (D d9_108) K60 (by show _ ≤ 24; omega) (by show _ ≤ 768; omega) (by rw [e55]; exact ⟨by rw [hz]; rfl, rfl, (Own.Ext.trans EX E55)⟩)
                    · have K61 : Own.To p e below B0 T55 (mkF m 44 #[vr o0, vi (Int32.ofNat e1), vi (own_pev cs w2)] []) := fun t k => K58 t (by
                        refine Own.icmpYes X55 hx 44 (D d9_104) (feq hc59).2 (by decide) (by decide) ?_
                        exact k)
                      obtain ⟨pp, p1, p2, p3, p4, p5⟩ : ∃ p, own_pev cs w2 = Int32.ofNat p ∧ w2 < p ∧ p ≤ cs.length ∧ own_pk cs w2 ≤ p - w2 + 1 ∧ own_A cs 5 w2 = own_lp cs p := by rcases hpar with q | q; exact absurd q.1 hc59; exact q
                      rw [p1] at K61
                      exact ih pp vm55 h55 (cells + 2 * (own_pk cs w2)) (slots + 64 * (own_pk cs w2)) T55 (by omega) (by omega) (hR3.trans p5) (by omega) (by omega) D55 (Own.Ext.trans EX E55) X55 e55 K61
                · have K62 : Own.To p e below B0 T45 (mkF m 44 #[vr o0, vi (Int32.ofNat e1), vi (Int32.ofNat w2)] []) := fun t k => K46 t (by
                    refine Own.icmpYes X45 hx 44 (D d9_83) (flt hc47).2.1 (by decide) (by decide) ?_
                    exact k)
                  exact ih w2 vmx hh cells slots T45 (by omega) (by omega) (hR3.trans (own_l4 (fun q => hc47 ((own_lt (by omega) (by omega)).mpr q)))) (by omega) (by omega) Dx EX X45 e45 K62
            · have K63 : Own.To p e below B0 T30 (mkF m 110 #[vr o0, vi (Int32.ofNat e1), vi (Int32.ofNat a)] [(.int 1)]) := fun t k => K31 t (by
                refine Own.icmpYes X30 hx 109 (D d9_49) (flt hc32).2.1 (by decide) (by decide) ?_
                refine Own.iconst X30 hx 1 (D d9_109) rfl ?_
                exact k)
              have hz : own_wf cs = 1 := by rw [hR]; exact own_lp_ge (fun q => hc32 ((own_lt (by omega) (by omega)).mpr q))
              exact Own.finHN X30 hx (own_hEL hw) e30 Dx (BodyLoose.notSynchronized Bd) Bd.returns (by simp) (D d9_110) K63 (by show _ ≤ 24; omega) (by show _ ≤ 768; omega) (by rw [e30]; exact ⟨by rw [hz]; rfl, rfl, EX⟩)
        exact loop cs.length e2 vm18 h18 ((0 + 2 * (e1)) + 2 * (e2 - (e1 + 1))) ((0 + 40 * (e1)) + 40 * (e2 - (e1 + 1))) T18 (by omega) (by omega) hw6 (by omega) (by omega) D18 (Own.Ext.trans E2 E18) X18 e18 K24

theorem ef_9n0 (m : MethodId) : entryFrame m #[.null] 3 = mkF m 0 #[.val .null, .unset, .unset] [] := by first | (simp [entryFrame, mkF, argsToLocals, Value.category]; done) | rfl
set_option maxRecDepth 65536 in
set_option maxHeartbeats 40000000 in
theorem cWFN (l : Launch) (Z : State) (a0 : Array Value) (hw : ∀ d ∈ tables_1, d.before a0 Z = true)  (h0 : Heap) : Own.Con l Z (⟨"com/example/pliktflow/pliktflow/deposit/MediaType", "isWellFormed", "(Ljava/lang/String;)Z"⟩ : MethodName) prog_22_method_2_code 3 (some .boolean) ({ frames := 0, cells := 0, slots := 0, locals := 0 } : Room) #[.null] h0 (Own.Pure (.int 0) h0) := by
  intro ws
  refine MetFree.of_bodySF (plainFor_of_name pn_2) hisR ?_
  intro p e s m args below meth c s₁ Bd hml0 hP hK
  obtain ⟨rfl, hZ, hh⟩ := hP
  have hx := Bd.exec
  have hby := Bd.bytes
  have D := fun {n : Nat} {i} (d : decode prog_22_method_2_code n = .ok i) => hb hby d
  have hml : c.maxLocals = 3 := hml0
  have hown : s.vm.findClass "com/example/pliktflow/pliktflow/deposit/MediaType" = some m.cls := findClass_of_methodNamed Bd.named
  have hnm := (name_of_methodNamed Bd.named Bd.method).1
  have X0 : Stand p l e ({ frames := 0, cells := 0, slots := 0, locals := 0 } : Room) s m #[.null] below meth c s₁ [] 0 0 := Stand.of_body Bd
  have e0 : s₁.heap = h0 := by rw [← hh, Bd.state]; rfl
  have K0 : ∀ t, Steps p.tables e below (s₁.setTop (mkF m 0 #[.val .null, .unset, .unset] [])) t → Steps p.tables e below (s₁.setTop (entryFrame m #[.null] 3)) t := fun t k => castTop (ef_9n0 m ) k
  generalize s₁.setTop (entryFrame m #[.null] 3) = B0 at K0 ⊢
  show Own.Fin p e below B0 s (({ frames := 0, cells := 0, slots := 0, locals := 0 } : Room)).cells (({ frames := 0, cells := 0, slots := 0, locals := 0 } : Room)).slots (Own.Pure (.int 0) h0)
  have K1 : Own.To p e below B0 s₁ (mkF m 5 #[.val .null, .unset, .unset] [(.int 0)]) := fun t k => K0 t (by
    refine Own.aloadN X0 hx (D d9_0) rfl rfl ?_
    refine Own.ifnonnullNo X0 hx (D d9_1) ?_
    refine Own.iconst X0 hx 0 (D d9_4) rfl ?_
    exact k)
  exact Own.finN X0 hx (BodyLoose.notSynchronized Bd) Bd.returns (by simp) (D d9_5) K1 (by decide) (by decide) ⟨rfl, rfl, e0⟩

theorem own_tbok (k : Nat) : own_ok (own_tb.getD k 0) := by
  have all : ∀ c ∈ own_tb, ¬ c < 0 ∧ ¬ (255 : Int32) < c := by decide
  by_cases h : k < own_tb.length
  · exact all _ (Own.getD_mem h)
  · rw [show own_tb.getD k 0 = 0 by rw [List.getD_eq_getElem?_getD, List.getElem?_eq_none (by omega)]; rfl]; exact ⟨by decide, by decide⟩
theorem own_b8l (y : Int64) : own_ok ((y &&& (255 : Int64)).toInt32) := by
  rw [own_okn]
  show ((y.toBitVec &&& 255#64).signExtend 32).toNat < 256
  rw [BitVec.signExtend_eq_setWidth_of_le _ (show 32 ≤ 64 by decide), BitVec.toNat_setWidth, BitVec.toNat_and]
  exact Nat.lt_of_le_of_lt (Nat.mod_le _ _) (Nat.lt_of_le_of_lt Nat.and_le_right (by decide))
theorem own_drok (q : Int64) (p : Int32) : own_ok (own_dr q p) := by
  unfold own_dr
  split
  · rw [own_narb (own_tbok _), own_narb (own_tbok _)]; exact own_tbok _
  · rw [own_narb (own_okc (own_b8l _))]; exact own_okc (own_b8l _)
theorem own_okif {y x v : Int32} (h : own_ok x) (g : own_ok v) : own_ok (if y = 0 then x else v) := by split; exact h; exact g
theorem own_n14 (x : Int32) : ∃ n : Nat, n < 14 ∧ ((x &&& (2147483647 : Int32)) % (14 : Int32)) = Int32.ofNat n := by
  obtain ⟨h1, h2⟩ := own_rem x 14 (by decide)
  rw [show (14 : Int32).toInt = 14 by decide] at h2
  exact own_nat h1 h2 (by decide)
theorem own_rnl (cs : List Int32) (n : Nat) (hn : n ≤ 12) : ∀ k, k ≤ cs.length → k ≤ 12 → own_rn (Int32.ofNat n) cs k = ((cs.take n).take k).foldl F16 0
  | 0, _, _ => by rw [List.take_zero]; rfl
  | k + 1, h, h2 => by
    rw [own_rn, own_rnl cs n hn k (by omega) (by omega)]
    by_cases q : k < n
    · have hk : k < cs.length := by omega
      rw [if_pos ((own_lt (by omega) (by omega)).mpr q)]
      have e : (cs.take n).take (k + 1) = (cs.take n).take k ++ [cs.getD k 0] := by
        rw [List.take_take, List.take_take, Nat.min_eq_left (by omega), Nat.min_eq_left (by omega), show cs.getD k 0 = cs[k] by simp [hk]]
        first | exact (List.take_append_getElem hk).symm | simp [List.take_succ, hk]
      rw [e, List.foldl_append]; rfl
    · rw [if_neg (fun z => q ((own_lt (by omega) (by omega)).mp z))]
      have hl : (cs.take n).length ≤ k := by rw [List.length_take]; omega
      rw [List.take_of_length_le hl, List.take_of_length_le (Nat.le_succ_of_le hl)]
theorem own_fin (xs : List Int32) (hx : xs.length = 12) (n : Nat) (hn : n ≤ 12) : own_wf (xs.take n) = F8 (own_rn (Int32.ofNat n) xs 12) := by
  rw [own_rnl xs n hn 12 (by omega) (by omega), List.take_of_length_le (show (xs.take n).length ≤ 12 by rw [List.length_take]; omega)]
  unfold own_wf own_A own_acc
  rw [List.drop_zero]

theorem pd_14 : parseMethodDescriptor "(JI)C" = some ⟨[.long, .int], some .char⟩ := by decide +kernel
theorem pd_15 : parseMethodDescriptor "(Ljava/lang/String;)Z" = some ⟨[(.object "java/lang/String")], some .boolean⟩ := by decide +kernel
theorem pd_16 : parseMethodDescriptor "([CI)Ljava/lang/String;" = some ⟨[(.array .char), .int], some (.object "java/lang/String")⟩ := by decide +kernel
theorem pd_17 : parseMethodDescriptor "([CI)I" = some ⟨[(.array .char), .int], some .int⟩ := by decide +kernel
theorem ef_0 (m : MethodId) (p0 : Int32) (q1 : Int64) (q2 : Int64) (p3 : Int32) : entryFrame m #[(.int p0), (.long q1), (.long q2), (.int p3)] maxLocals = mkF m 0 #[.val (.int p0), .val (.long q1), .second, .val (.long q2), .second, .val (.int p3), .unset, .unset, .unset, .unset] [] := by first | (simp [entryFrame, mkF, argsToLocals, Value.category, maxLocals]; done) | rfl
set_option maxRecDepth 65536 in
set_option maxHeartbeats 40000000 in
theorem c0 (l : Launch) (Z : State) (a0 : Array Value) (hw : ∀ d ∈ tables_1, d.before a0 Z = true) (p0 : Int32) (q1 : Int64) (q2 : Int64) (p3 : Int32) (G1 : Int32) (G3 : Value) (h0 : Heap) (SC : Sta Z h0 "java/lang/String" "COMPACT_STRINGS" "Z" (.int G1)) (hG1 : ¬ G1 = 0) (SF : Sta Z h0 "jdk/internal/util/Preconditions" "SIOOBE_FORMATTER" "Ljava/util/function/BiFunction;" G3) (rG3 : G3.isRef = true) : Own.ConH l Z own_EL x code maxLocals ret room_1 #[(.int p0), (.long q1), (.long q2), (.int p3)] h0 (Own.Law1 h0) := by
  intro ws
  refine MetFree.of_bodySF (plainFor_of_name pn_1) hisR ?_
  intro p e s m args below meth c s₁ Bd hml0 hP hK
  obtain ⟨rfl, hZ, hh, hH⟩ := hP
  have hx := Bd.exec
  have hby := Bd.bytes
  have D := fun {n : Nat} {i} (d : decode code n = .ok i) => hb hby d
  have hml : c.maxLocals = 10 := hml0
  have hown : s.vm.findClass "com/example/pliktflow/pliktflow/deposit/MediaTypeIsWellFormedPinLaw" = some m.cls := findClass_of_methodNamed Bd.named
  have hnm := (name_of_methodNamed Bd.named Bd.method).1
  have X0 : Stand p l e room_1 (s.setVm s.vm) m #[(.int p0), (.long q1), (.long q2), (.int p3)] below meth c s₁ [] 0 0 := Stand.of_body Bd
  have e0 : s₁.heap = h0 := by rw [← hh, Bd.state]; rfl
  have D0 : Own.Wd s Z own_EL "com/example/pliktflow/pliktflow/deposit/MediaTypeIsWellFormedPinLaw" m.cls s.vm h0 := by rw [← hh]; exact Own.Wd.start hZ hown (by rw [hh]; exact hH)
  have K0 : ∀ t, Steps p.tables e below (s₁.setTop (mkF m 0 #[vi p0, vl q1, .second, vl q2, .second, vi p3, .unset, .unset, .unset, .unset] [])) t → Steps p.tables e below (s₁.setTop (entryFrame m #[(.int p0), (.long q1), (.long q2), (.int p3)] maxLocals)) t := fun t k => castTop (ef_0 m p0 q1 q2 p3) k
  generalize s₁.setTop (entryFrame m #[(.int p0), (.long q1), (.long q2), (.int p3)] maxLocals) = B0 at K0 ⊢
  show Own.FinH p e below B0 s Z own_EL (room_1).cells (room_1).slots (Own.Law1 h0)
  obtain ⟨n0, hn0⟩ : ∃ z, z = h0.size := ⟨_, rfl⟩
  have Z0 : n0 ≤ h0.size := Nat.le_of_eq hn0
  have K1 : Own.To p e below B0 s₁ (mkF m 9 #[vi p0, vl q1, .second, vl q2, .second, vi p3, vi ((p0 &&& (2147483647 : Int32)) % (14 : Int32)), .unset, .unset, .unset] []) := fun t k => K0 t (by
    refine Own.iloadN X0 hx (D at_0) rfl ?_
    refine Own.ldcI X0 hx (2147483647 : Int32) D0.hZ D0.hown (W_ hw 0 rfl) (D at_1) ?_
    refine Own.iand X0 hx (D at_3) ?_
    refine Own.bipush X0 hx 14 (D at_4) rfl ?_
    refine Own.irem X0 hx (D at_6) (by decide) ?_
    refine Own.istore X0 hx #[vi p0, vl q1, .second, vl q2, .second, vi p3, vi ((p0 &&& (2147483647 : Int32)) % (14 : Int32)), .unset, .unset, .unset] (D at_7) rfl ?_
    exact k)
  obtain ⟨nn, hnn, en⟩ := own_n14 p0
  rw [en] at K1
  have K2 : Own.To p e below B0 s₁ (mkF m 11 #[vi p0, vl q1, .second, vl q2, .second, vi p3, vi (Int32.ofNat nn), .unset, .unset, .unset] [(.int 12)]) := fun t k => K1 t (by
    refine Own.bipush X0 hx 12 (D at_9) rfl ?_
    exact k)
  obtain ⟨T3, h3, b3, X3, e3, E3, g3, V3, st3⟩ := Own.newA (Ls := #[vi p0, vl q1, .second, vl q2, .second, vi p3, vi (Int32.ofNat nn), .unset, .unset, .unset]) (S := []) (z := (12 : Int32)) X0 hx D0.hZ e0 .char rfl rfl (W_ hw 1 rfl) 12 rfl (by decide) (D at_11) (by decide) (by decide)
  have le_b3 : h0.size ≤ b3 := Nat.le_of_eq g3.symm
  have X3 : Stand p l e room_1 (s.setVm s.vm) m #[(.int p0), (.long q1), (.long q2), (.int p3)] below meth c T3 [] 1 12 := X3
  have V3 : Own.CA Z h3 b3 .char [(0 : Int32), (0 : Int32), (0 : Int32), (0 : Int32), (0 : Int32), (0 : Int32), (0 : Int32), (0 : Int32), (0 : Int32), (0 : Int32), (0 : Int32), (0 : Int32)] := V3
  have m4 : h0.size ≤ h3.size := E3.1
  have D4 := D0.ext E3
  have K5 := fun t k => K2 t (st3 t k)
  have K6 : Own.To p e below B0 T3 (mkF m 20 #[vi p0, vl q1, .second, vl q2, .second, vi p3, vi (Int32.ofNat nn), vr b3, .unset, .unset] [(.int 0), (.long q1), (.int 0), (.ref b3)]) := fun t k => K5 t (by
    refine Own.astore X3 hx #[vi p0, vl q1, .second, vl q2, .second, vi p3, vi (Int32.ofNat nn), vr b3, .unset, .unset] (D at_13) rfl rfl ?_
    refine Own.aload X3 hx (D at_15) rfl rfl ?_
    refine Own.iconst X3 hx 0 (D at_17) rfl ?_
    refine Own.lloadN X3 hx (D at_18) rfl ?_
    refine Own.iconst X3 hx 0 (D at_19) rfl ?_
    exact k)
  obtain ⟨T7, h7, v7, J7, L7, X7, e7, n7, hQ7, st7⟩ := Own.callH (Ls := #[vi p0, vl q1, .second, vl q2, .second, vi p3, vi (Int32.ofNat nn), vr b3, .unset, .unset]) X3 hx D4.hZ e3 [(.long q1), (.int 0)] [(.int 0), (.ref b3)] (cDR l Z a0 hw q1 (0 : Int32) n0 h3 (Nat.le_trans Z0 m4)) D4.hown (W_ hw 2 rfl) (W_ hw 3 rfl) (W_ hw 4 rfl) (W_ hw 5 rfl) (by decide) 2 (by decide) (by decide) (by decide) (by decide) (szOf hml rfl) (lenOf pd_14 rfl) rfl (Nat.le_of_eq rfl) (D at_20)
  have X7 : Stand p l e room_1 (s.setVm s.vm) m #[(.int p0), (.long q1), (.long q2), (.int p3)] below meth c T7 L7 2 44 := X7
  obtain ⟨rfl, NN7, K7⟩ := hQ7
  have N7 : Fr n0 L7 := n7 n0 (Fr.nil _) NN7
  have m8 : h3.size ≤ h7.size := K7.1
  have D8 := D4.keep K7 sf0
  have K9 := fun t k => K6 t (st7 t k)
  obtain ⟨d10, od10, ed10⟩ : ∃ z, own_ok z ∧ own_dr q1 (0 : Int32) = z := ⟨_, own_drok _ _, rfl⟩
  rw [ed10] at K9
  have f11 := (V3.keep K7 nin0)
  obtain ⟨T12, h12, L12, X12, e12, n12, W12, V12, st12⟩ := Own.stc (Ls := #[vi p0, vl q1, .second, vl q2, .second, vi p3, vi (Int32.ofNat nn), vr b3, .unset, .unset]) (S := []) (x := d10) (j := (0 : Int32)) X7 hx D8.hZ e7 f11 0 rfl (by decide) (show 0 < 12 by decide) (D at_23)
  have V12 : Own.CA Z h12 b3 .char [d10, (0 : Int32), (0 : Int32), (0 : Int32), (0 : Int32), (0 : Int32), (0 : Int32), (0 : Int32), (0 : Int32), (0 : Int32), (0 : Int32), (0 : Int32)] := (by rw [show d10 = nar .char d10 from (own_narb od10).symm]; exact V12)
  have N12 : Fr n0 L12 := n12 n0 N7 (Nat.le_trans Z0 (Nat.le_trans (Nat.le_refl _) le_b3))
  have m13 : h7.size ≤ h12.size := Nat.le_of_eq W12.size.symm
  have D13 := D8.wr W12 (Own.CA.safe D8.hZ.alike f11 (by decide))
  have K14 := fun t k => K9 t (st12 t k)
  have K15 : Own.To p e below B0 T12 (mkF m 29 #[vi p0, vl q1, .second, vl q2, .second, vi p3, vi (Int32.ofNat nn), vr b3, .unset, .unset] [(.int 1), (.long q1), (.int 1), (.ref b3)]) := fun t k => K14 t (by
    refine Own.aload X12 hx (D at_24) rfl rfl ?_
    refine Own.iconst X12 hx 1 (D at_26) rfl ?_
    refine Own.lloadN X12 hx (D at_27) rfl ?_
    refine Own.iconst X12 hx 1 (D at_28) rfl ?_
    exact k)
  obtain ⟨T16, h16, v16, J16, L16, X16, e16, n16, hQ16, st16⟩ := Own.callH (Ls := #[vi p0, vl q1, .second, vl q2, .second, vi p3, vi (Int32.ofNat nn), vr b3, .unset, .unset]) X12 hx D13.hZ e12 [(.long q1), (.int 1)] [(.int 1), (.ref b3)] (cDR l Z a0 hw q1 (1 : Int32) n0 h12 (Nat.le_trans Z0 (Nat.le_trans (Nat.le_trans m4 m8) m13))) D13.hown (W_ hw 2 rfl) (W_ hw 3 rfl) (W_ hw 4 rfl) (W_ hw 5 rfl) (by decide) 2 (by decide) (by decide) (by decide) (by decide) (szOf hml rfl) (lenOf pd_14 rfl) rfl (Nat.le_of_eq rfl) (D at_29)
  have X16 : Stand p l e room_1 (s.setVm s.vm) m #[(.int p0), (.long q1), (.long q2), (.int p3)] below meth c T16 L16 3 76 := X16
  obtain ⟨rfl, NN16, K16⟩ := hQ16
  have N16 : Fr n0 L16 := n16 n0 N12 NN16
  have m17 : h12.size ≤ h16.size := K16.1
  have D17 := D13.keep K16 sf0
  have K18 := fun t k => K15 t (st16 t k)
  obtain ⟨d19, od19, ed19⟩ : ∃ z, own_ok z ∧ own_dr q1 (1 : Int32) = z := ⟨_, own_drok _ _, rfl⟩
  rw [ed19] at K18
  have f20 := (V12.keep K16 nin0)
  obtain ⟨T21, h21, L21, X21, e21, n21, W21, V21, st21⟩ := Own.stc (Ls := #[vi p0, vl q1, .second, vl q2, .second, vi p3, vi (Int32.ofNat nn), vr b3, .unset, .unset]) (S := []) (x := d19) (j := (1 : Int32)) X16 hx D17.hZ e16 f20 1 rfl (by decide) (show 1 < 12 by decide) (D at_32)
  have V21 : Own.CA Z h21 b3 .char [d10, d19, (0 : Int32), (0 : Int32), (0 : Int32), (0 : Int32), (0 : Int32), (0 : Int32), (0 : Int32), (0 : Int32), (0 : Int32), (0 : Int32)] := (by rw [show d19 = nar .char d19 from (own_narb od19).symm]; exact V21)
  have N21 : Fr n0 L21 := n21 n0 N16 (Nat.le_trans Z0 (Nat.le_trans (Nat.le_refl _) le_b3))
  have m22 : h16.size ≤ h21.size := Nat.le_of_eq W21.size.symm
  have D22 := D17.wr W21 (Own.CA.safe D17.hZ.alike f20 (by decide))
  have K23 := fun t k => K18 t (st21 t k)
  have K24 : Own.To p e below B0 T21 (mkF m 38 #[vi p0, vl q1, .second, vl q2, .second, vi p3, vi (Int32.ofNat nn), vr b3, .unset, .unset] [(.int 2), (.long q1), (.int 2), (.ref b3)]) := fun t k => K23 t (by
    refine Own.aload X21 hx (D at_33) rfl rfl ?_
    refine Own.iconst X21 hx 2 (D at_35) rfl ?_
    refine Own.lloadN X21 hx (D at_36) rfl ?_
    refine Own.iconst X21 hx 2 (D at_37) rfl ?_
    exact k)
  obtain ⟨T25, h25, v25, J25, L25, X25, e25, n25, hQ25, st25⟩ := Own.callH (Ls := #[vi p0, vl q1, .second, vl q2, .second, vi p3, vi (Int32.ofNat nn), vr b3, .unset, .unset]) X21 hx D22.hZ e21 [(.long q1), (.int 2)] [(.int 2), (.ref b3)] (cDR l Z a0 hw q1 (2 : Int32) n0 h21 (Nat.le_trans Z0 (Nat.le_trans (Nat.le_trans (Nat.le_trans (Nat.le_trans m4 m8) m13) m17) m22))) D22.hown (W_ hw 2 rfl) (W_ hw 3 rfl) (W_ hw 4 rfl) (W_ hw 5 rfl) (by decide) 2 (by decide) (by decide) (by decide) (by decide) (szOf hml rfl) (lenOf pd_14 rfl) rfl (Nat.le_of_eq rfl) (D at_38)
  have X25 : Stand p l e room_1 (s.setVm s.vm) m #[(.int p0), (.long q1), (.long q2), (.int p3)] below meth c T25 L25 4 108 := X25
  obtain ⟨rfl, NN25, K25⟩ := hQ25
  have N25 : Fr n0 L25 := n25 n0 N21 NN25
  have m26 : h21.size ≤ h25.size := K25.1
  have D26 := D22.keep K25 sf0
  have K27 := fun t k => K24 t (st25 t k)
  obtain ⟨d28, od28, ed28⟩ : ∃ z, own_ok z ∧ own_dr q1 (2 : Int32) = z := ⟨_, own_drok _ _, rfl⟩
  rw [ed28] at K27
  have f29 := (V21.keep K25 nin0)
  obtain ⟨T30, h30, L30, X30, e30, n30, W30, V30, st30⟩ := Own.stc (Ls := #[vi p0, vl q1, .second, vl q2, .second, vi p3, vi (Int32.ofNat nn), vr b3, .unset, .unset]) (S := []) (x := d28) (j := (2 : Int32)) X25 hx D26.hZ e25 f29 2 rfl (by decide) (show 2 < 12 by decide) (D at_41)
  have V30 : Own.CA Z h30 b3 .char [d10, d19, d28, (0 : Int32), (0 : Int32), (0 : Int32), (0 : Int32), (0 : Int32), (0 : Int32), (0 : Int32), (0 : Int32), (0 : Int32)] := (by rw [show d28 = nar .char d28 from (own_narb od28).symm]; exact V30)
  have N30 : Fr n0 L30 := n30 n0 N25 (Nat.le_trans Z0 (Nat.le_trans (Nat.le_refl _) le_b3))
  have m31 : h25.size ≤ h30.size := Nat.le_of_eq W30.size.symm
  have D31 := D26.wr W30 (Own.CA.safe D26.hZ.alike f29 (by decide))
  have K32 := fun t k => K27 t (st30 t k)
  have K33 : Own.To p e below B0 T30 (mkF m 47 #[vi p0, vl q1, .second, vl q2, .second, vi p3, vi (Int32.ofNat nn), vr b3, .unset, .unset] [(.int 3), (.long q1), (.int 3), (.ref b3)]) := fun t k => K32 t (by
    refine Own.aload X30 hx (D at_42) rfl rfl ?_
    refine Own.iconst X30 hx 3 (D at_44) rfl ?_
    refine Own.lloadN X30 hx (D at_45) rfl ?_
    refine Own.iconst X30 hx 3 (D at_46) rfl ?_
    exact k)
  obtain ⟨T34, h34, v34, J34, L34, X34, e34, n34, hQ34, st34⟩ := Own.callH (Ls := #[vi p0, vl q1, .second, vl q2, .second, vi p3, vi (Int32.ofNat nn), vr b3, .unset, .unset]) X30 hx D31.hZ e30 [(.long q1), (.int 3)] [(.int 3), (.ref b3)] (cDR l Z a0 hw q1 (3 : Int32) n0 h30 (Nat.le_trans Z0 (Nat.le_trans (Nat.le_trans (Nat.le_trans (Nat.le_trans (Nat.le_trans (Nat.le_trans m4 m8) m13) m17) m22) m26) m31))) D31.hown (W_ hw 2 rfl) (W_ hw 3 rfl) (W_ hw 4 rfl) (W_ hw 5 rfl) (by decide) 2 (by decide) (by decide) (by decide) (by decide) (szOf hml rfl) (lenOf pd_14 rfl) rfl (Nat.le_of_eq rfl) (D at_47)
  have X34 : Stand p l e room_1 (s.setVm s.vm) m #[(.int p0), (.long q1), (.long q2), (.int p3)] below meth c T34 L34 5 140 := X34
  obtain ⟨rfl, NN34, K34⟩ := hQ34
  have N34 : Fr n0 L34 := n34 n0 N30 NN34
  have m35 : h30.size ≤ h34.size := K34.1
  have D35 := D31.keep K34 sf0
  have K36 := fun t k => K33 t (st34 t k)
  obtain ⟨d37, od37, ed37⟩ : ∃ z, own_ok z ∧ own_dr q1 (3 : Int32) = z := ⟨_, own_drok _ _, rfl⟩
  rw [ed37] at K36
  have f38 := (V30.keep K34 nin0)
  obtain ⟨T39, h39, L39, X39, e39, n39, W39, V39, st39⟩ := Own.stc (Ls := #[vi p0, vl q1, .second, vl q2, .second, vi p3, vi (Int32.ofNat nn), vr b3, .unset, .unset]) (S := []) (x := d37) (j := (3 : Int32)) X34 hx D35.hZ e34 f38 3 rfl (by decide) (show 3 < 12 by decide) (D at_50)
  have V39 : Own.CA Z h39 b3 .char [d10, d19, d28, d37, (0 : Int32), (0 : Int32), (0 : Int32), (0 : Int32), (0 : Int32), (0 : Int32), (0 : Int32), (0 : Int32)] := (by rw [show d37 = nar .char d37 from (own_narb od37).symm]; exact V39)
  have N39 : Fr n0 L39 := n39 n0 N34 (Nat.le_trans Z0 (Nat.le_trans (Nat.le_refl _) le_b3))
  have m40 : h34.size ≤ h39.size := Nat.le_of_eq W39.size.symm
  have D40 := D35.wr W39 (Own.CA.safe D35.hZ.alike f38 (by decide))
  have K41 := fun t k => K36 t (st39 t k)
  have K42 : Own.To p e below B0 T39 (mkF m 56 #[vi p0, vl q1, .second, vl q2, .second, vi p3, vi (Int32.ofNat nn), vr b3, .unset, .unset] [(.int 4), (.long q1), (.int 4), (.ref b3)]) := fun t k => K41 t (by
    refine Own.aload X39 hx (D at_51) rfl rfl ?_
    refine Own.iconst X39 hx 4 (D at_53) rfl ?_
    refine Own.lloadN X39 hx (D at_54) rfl ?_
    refine Own.iconst X39 hx 4 (D at_55) rfl ?_
    exact k)
  obtain ⟨T43, h43, v43, J43, L43, X43, e43, n43, hQ43, st43⟩ := Own.callH (Ls := #[vi p0, vl q1, .second, vl q2, .second, vi p3, vi (Int32.ofNat nn), vr b3, .unset, .unset]) X39 hx D40.hZ e39 [(.long q1), (.int 4)] [(.int 4), (.ref b3)] (cDR l Z a0 hw q1 (4 : Int32) n0 h39 (Nat.le_trans Z0 (Nat.le_trans (Nat.le_trans (Nat.le_trans (Nat.le_trans (Nat.le_trans (Nat.le_trans (Nat.le_trans (Nat.le_trans m4 m8) m13) m17) m22) m26) m31) m35) m40))) D40.hown (W_ hw 2 rfl) (W_ hw 3 rfl) (W_ hw 4 rfl) (W_ hw 5 rfl) (by decide) 2 (by decide) (by decide) (by decide) (by decide) (szOf hml rfl) (lenOf pd_14 rfl) rfl (Nat.le_of_eq rfl) (D at_56)
  have X43 : Stand p l e room_1 (s.setVm s.vm) m #[(.int p0), (.long q1), (.long q2), (.int p3)] below meth c T43 L43 6 172 := X43
  obtain ⟨rfl, NN43, K43⟩ := hQ43
  have N43 : Fr n0 L43 := n43 n0 N39 NN43
  have m44 : h39.size ≤ h43.size := K43.1
  have D44 := D40.keep K43 sf0
  have K45 := fun t k => K42 t (st43 t k)
  obtain ⟨d46, od46, ed46⟩ : ∃ z, own_ok z ∧ own_dr q1 (4 : Int32) = z := ⟨_, own_drok _ _, rfl⟩
  rw [ed46] at K45
  have f47 := (V39.keep K43 nin0)
  obtain ⟨T48, h48, L48, X48, e48, n48, W48, V48, st48⟩ := Own.stc (Ls := #[vi p0, vl q1, .second, vl q2, .second, vi p3, vi (Int32.ofNat nn), vr b3, .unset, .unset]) (S := []) (x := d46) (j := (4 : Int32)) X43 hx D44.hZ e43 f47 4 rfl (by decide) (show 4 < 12 by decide) (D at_59)
  have V48 : Own.CA Z h48 b3 .char [d10, d19, d28, d37, d46, (0 : Int32), (0 : Int32), (0 : Int32), (0 : Int32), (0 : Int32), (0 : Int32), (0 : Int32)] := (by rw [show d46 = nar .char d46 from (own_narb od46).symm]; exact V48)
  have N48 : Fr n0 L48 := n48 n0 N43 (Nat.le_trans Z0 (Nat.le_trans (Nat.le_refl _) le_b3))
  have m49 : h43.size ≤ h48.size := Nat.le_of_eq W48.size.symm
  have D49 := D44.wr W48 (Own.CA.safe D44.hZ.alike f47 (by decide))
  have K50 := fun t k => K45 t (st48 t k)
  have K51 : Own.To p e below B0 T48 (mkF m 65 #[vi p0, vl q1, .second, vl q2, .second, vi p3, vi (Int32.ofNat nn), vr b3, .unset, .unset] [(.int 5), (.long q1), (.int 5), (.ref b3)]) := fun t k => K50 t (by
    refine Own.aload X48 hx (D at_60) rfl rfl ?_
    refine Own.iconst X48 hx 5 (D at_62) rfl ?_
    refine Own.lloadN X48 hx (D at_63) rfl ?_
    refine Own.iconst X48 hx 5 (D at_64) rfl ?_
    exact k)
  obtain ⟨T52, h52, v52, J52, L52, X52, e52, n52, hQ52, st52⟩ := Own.callH (Ls := #[vi p0, vl q1, .second, vl q2, .second, vi p3, vi (Int32.ofNat nn), vr b3, .unset, .unset]) X48 hx D49.hZ e48 [(.long q1), (.int 5)] [(.int 5), (.ref b3)] (cDR l Z a0 hw q1 (5 : Int32) n0 h48 (Nat.le_trans Z0 (Nat.le_trans (Nat.le_trans (Nat.le_trans (Nat.le_trans (Nat.le_trans (Nat.le_trans (Nat.le_trans (Nat.le_trans (Nat.le_trans (Nat.le_trans m4 m8) m13) m17) m22) m26) m31) m35) m40) m44) m49))) D49.hown (W_ hw 2 rfl) (W_ hw 3 rfl) (W_ hw 4 rfl) (W_ hw 5 rfl) (by decide) 2 (by decide) (by decide) (by decide) (by decide) (szOf hml rfl) (lenOf pd_14 rfl) rfl (Nat.le_of_eq rfl) (D at_65)
  have X52 : Stand p l e room_1 (s.setVm s.vm) m #[(.int p0), (.long q1), (.long q2), (.int p3)] below meth c T52 L52 7 204 := X52
  obtain ⟨rfl, NN52, K52⟩ := hQ52
  have N52 : Fr n0 L52 := n52 n0 N48 NN52
  have m53 : h48.size ≤ h52.size := K52.1
  have D53 := D49.keep K52 sf0
  have K54 := fun t k => K51 t (st52 t k)
  obtain ⟨d55, od55, ed55⟩ : ∃ z, own_ok z ∧ own_dr q1 (5 : Int32) = z := ⟨_, own_drok _ _, rfl⟩
  rw [ed55] at K54
  have f56 := (V48.keep K52 nin0)
  obtain ⟨T57, h57, L57, X57, e57, n57, W57, V57, st57⟩ := Own.stc (Ls := #[vi p0, vl q1, .second, vl q2, .second, vi p3, vi (Int32.ofNat nn), vr b3, .unset, .unset]) (S := []) (x := d55) (j := (5 : Int32)) X52 hx D53.hZ e52 f56 5 rfl (by decide) (show 5 < 12 by decide) (D at_68)
  have V57 : Own.CA Z h57 b3 .char [d10, d19, d28, d37, d46, d55, (0 : Int32), (0 : Int32), (0 : Int32), (0 : Int32), (0 : Int32), (0 : Int32)] := (by rw [show d55 = nar .char d55 from (own_narb od55).symm]; exact V57)
  have N57 : Fr n0 L57 := n57 n0 N52 (Nat.le_trans Z0 (Nat.le_trans (Nat.le_refl _) le_b3))
  have m58 : h52.size ≤ h57.size := Nat.le_of_eq W57.size.symm
  have D58 := D53.wr W57 (Own.CA.safe D53.hZ.alike f56 (by decide))
  have K59 := fun t k => K54 t (st57 t k)
  have K60 : Own.To p e below B0 T57 (mkF m 76 #[vi p0, vl q1, .second, vl q2, .second, vi p3, vi (Int32.ofNat nn), vr b3, .unset, .unset] [(.int 6), (.long q1), (.int 6), (.ref b3)]) := fun t k => K59 t (by
    refine Own.aload X57 hx (D at_69) rfl rfl ?_
    refine Own.bipush X57 hx 6 (D at_71) rfl ?_
    refine Own.lloadN X57 hx (D at_73) rfl ?_
    refine Own.bipush X57 hx 6 (D at_74) rfl ?_
    exact k)
  obtain ⟨T61, h61, v61, J61, L61, X61, e61, n61, hQ61, st61⟩ := Own.callH (Ls := #[vi p0, vl q1, .second, vl q2, .second, vi p3, vi (Int32.ofNat nn), vr b3, .unset, .unset]) X57 hx D58.hZ e57 [(.long q1), (.int 6)] [(.int 6), (.ref b3)] (cDR l Z a0 hw q1 (6 : Int32) n0 h57 (Nat.le_trans Z0 (Nat.le_trans (Nat.le_trans (Nat.le_trans (Nat.le_trans (Nat.le_trans (Nat.le_trans (Nat.le_trans (Nat.le_trans (Nat.le_trans (Nat.le_trans (Nat.le_trans (Nat.le_trans m4 m8) m13) m17) m22) m26) m31) m35) m40) m44) m49) m53) m58))) D58.hown (W_ hw 2 rfl) (W_ hw 3 rfl) (W_ hw 4 rfl) (W_ hw 5 rfl) (by decide) 2 (by decide) (by decide) (by decide) (by decide) (szOf hml rfl) (lenOf pd_14 rfl) rfl (Nat.le_of_eq rfl) (D at_76)
  have X61 : Stand p l e room_1 (s.setVm s.vm) m #[(.int p0), (.long q1), (.long q2), (.int p3)] below meth c T61 L61 8 236 := X61
  obtain ⟨rfl, NN61, K61⟩ := hQ61
  have N61 : Fr n0 L61 := n61 n0 N57 NN61
  have m62 : h57.size ≤ h61.size := K61.1
  have D62 := D58.keep K61 sf0
  have K63 := fun t k => K60 t (st61 t k)
  obtain ⟨d64, od64, ed64⟩ : ∃ z, own_ok z ∧ own_dr q1 (6 : Int32) = z := ⟨_, own_drok _ _, rfl⟩
  rw [ed64] at K63
  have f65 := (V57.keep K61 nin0)
  obtain ⟨T66, h66, L66, X66, e66, n66, W66, V66, st66⟩ := Own.stc (Ls := #[vi p0, vl q1, .second, vl q2, .second, vi p3, vi (Int32.ofNat nn), vr b3, .unset, .unset]) (S := []) (x := d64) (j := (6 : Int32)) X61 hx D62.hZ e61 f65 6 rfl (by decide) (show 6 < 12 by decide) (D at_79)
  have V66 : Own.CA Z h66 b3 .char [d10, d19, d28, d37, d46, d55, d64, (0 : Int32), (0 : Int32), (0 : Int32), (0 : Int32), (0 : Int32)] := (by rw [show d64 = nar .char d64 from (own_narb od64).symm]; exact V66)
  have N66 : Fr n0 L66 := n66 n0 N61 (Nat.le_trans Z0 (Nat.le_trans (Nat.le_refl _) le_b3))
  have m67 : h61.size ≤ h66.size := Nat.le_of_eq W66.size.symm
  have D67 := D62.wr W66 (Own.CA.safe D62.hZ.alike f65 (by decide))
  have K68 := fun t k => K63 t (st66 t k)
  have K69 : Own.To p e below B0 T66 (mkF m 86 #[vi p0, vl q1, .second, vl q2, .second, vi p3, vi (Int32.ofNat nn), vr b3, .unset, .unset] [(.int 0), (.long q2), (.int 7), (.ref b3)]) := fun t k => K68 t (by
    refine Own.aload X66 hx (D at_80) rfl rfl ?_
    refine Own.bipush X66 hx 7 (D at_82) rfl ?_
    refine Own.lloadN X66 hx (D at_84) rfl ?_
    refine Own.iconst X66 hx 0 (D at_85) rfl ?_
    exact k)
  obtain ⟨T70, h70, v70, J70, L70, X70, e70, n70, hQ70, st70⟩ := Own.callH (Ls := #[vi p0, vl q1, .second, vl q2, .second, vi p3, vi (Int32.ofNat nn), vr b3, .unset, .unset]) X66 hx D67.hZ e66 [(.long q2), (.int 0)] [(.int 7), (.ref b3)] (cDR l Z a0 hw q2 (0 : Int32) n0 h66 (Nat.le_trans Z0 (Nat.le_trans (Nat.le_trans (Nat.le_trans (Nat.le_trans (Nat.le_trans (Nat.le_trans (Nat.le_trans (Nat.le_trans (Nat.le_trans (Nat.le_trans (Nat.le_trans (Nat.le_trans (Nat.le_trans (Nat.le_trans m4 m8) m13) m17) m22) m26) m31) m35) m40) m44) m49) m53) m58) m62) m67))) D67.hown (W_ hw 2 rfl) (W_ hw 3 rfl) (W_ hw 4 rfl) (W_ hw 5 rfl) (by decide) 2 (by decide) (by decide) (by decide) (by decide) (szOf hml rfl) (lenOf pd_14 rfl) rfl (Nat.le_of_eq rfl) (D at_86)
  have X70 : Stand p l e room_1 (s.setVm s.vm) m #[(.int p0), (.long q1), (.long q2), (.int p3)] below meth c T70 L70 9 268 := X70
  obtain ⟨rfl, NN70, K70⟩ := hQ70
  have N70 : Fr n0 L70 := n70 n0 N66 NN70
  have m71 : h66.size ≤ h70.size := K70.1
  have D71 := D67.keep K70 sf0
  have K72 := fun t k => K69 t (st70 t k)
  obtain ⟨d73, od73, ed73⟩ : ∃ z, own_ok z ∧ own_dr q2 (0 : Int32) = z := ⟨_, own_drok _ _, rfl⟩
  rw [ed73] at K72
  have f74 := (V66.keep K70 nin0)
  obtain ⟨T75, h75, L75, X75, e75, n75, W75, V75, st75⟩ := Own.stc (Ls := #[vi p0, vl q1, .second, vl q2, .second, vi p3, vi (Int32.ofNat nn), vr b3, .unset, .unset]) (S := []) (x := d73) (j := (7 : Int32)) X70 hx D71.hZ e70 f74 7 rfl (by decide) (show 7 < 12 by decide) (D at_89)
  have V75 : Own.CA Z h75 b3 .char [d10, d19, d28, d37, d46, d55, d64, d73, (0 : Int32), (0 : Int32), (0 : Int32), (0 : Int32)] := (by rw [show d73 = nar .char d73 from (own_narb od73).symm]; exact V75)
  have N75 : Fr n0 L75 := n75 n0 N70 (Nat.le_trans Z0 (Nat.le_trans (Nat.le_refl _) le_b3))
  have m76 : h70.size ≤ h75.size := Nat.le_of_eq W75.size.symm
  have D76 := D71.wr W75 (Own.CA.safe D71.hZ.alike f74 (by decide))
  have K77 := fun t k => K72 t (st75 t k)
  have K78 : Own.To p e below B0 T75 (mkF m 96 #[vi p0, vl q1, .second, vl q2, .second, vi p3, vi (Int32.ofNat nn), vr b3, .unset, .unset] [(.int 1), (.long q2), (.int 8), (.ref b3)]) := fun t k => K77 t (by
    refine Own.aload X75 hx (D at_90) rfl rfl ?_
    refine Own.bipush X75 hx 8 (D at_92) rfl ?_
    refine Own.lloadN X75 hx (D at_94) rfl ?_
    refine Own.iconst X75 hx 1 (D at_95) rfl ?_
    exact k)
  obtain ⟨T79, h79, v79, J79, L79, X79, e79, n79, hQ79, st79⟩ := Own.callH (Ls := #[vi p0, vl q1, .second, vl q2, .second, vi p3, vi (Int32.ofNat nn), vr b3, .unset, .unset]) X75 hx D76.hZ e75 [(.long q2), (.int 1)] [(.int 8), (.ref b3)] (cDR l Z a0 hw q2 (1 : Int32) n0 h75 (Nat.le_trans Z0 (Nat.le_trans (Nat.le_trans (Nat.le_trans (Nat.le_trans (Nat.le_trans (Nat.le_trans (Nat.le_trans (Nat.le_trans (Nat.le_trans (Nat.le_trans (Nat.le_trans (Nat.le_trans (Nat.le_trans (Nat.le_trans (Nat.le_trans (Nat.le_trans m4 m8) m13) m17) m22) m26) m31) m35) m40) m44) m49) m53) m58) m62) m67) m71) m76))) D76.hown (W_ hw 2 rfl) (W_ hw 3 rfl) (W_ hw 4 rfl) (W_ hw 5 rfl) (by decide) 2 (by decide) (by decide) (by decide) (by decide) (szOf hml rfl) (lenOf pd_14 rfl) rfl (Nat.le_of_eq rfl) (D at_96)
  have X79 : Stand p l e room_1 (s.setVm s.vm) m #[(.int p0), (.long q1), (.long q2), (.int p3)] below meth c T79 L79 10 300 := X79
  obtain ⟨rfl, NN79, K79⟩ := hQ79
  have N79 : Fr n0 L79 := n79 n0 N75 NN79
  have m80 : h75.size ≤ h79.size := K79.1
  have D80 := D76.keep K79 sf0
  have K81 := fun t k => K78 t (st79 t k)
  obtain ⟨d82, od82, ed82⟩ : ∃ z, own_ok z ∧ own_dr q2 (1 : Int32) = z := ⟨_, own_drok _ _, rfl⟩
  rw [ed82] at K81
  have f83 := (V75.keep K79 nin0)
  obtain ⟨T84, h84, L84, X84, e84, n84, W84, V84, st84⟩ := Own.stc (Ls := #[vi p0, vl q1, .second, vl q2, .second, vi p3, vi (Int32.ofNat nn), vr b3, .unset, .unset]) (S := []) (x := d82) (j := (8 : Int32)) X79 hx D80.hZ e79 f83 8 rfl (by decide) (show 8 < 12 by decide) (D at_99)
  have V84 : Own.CA Z h84 b3 .char [d10, d19, d28, d37, d46, d55, d64, d73, d82, (0 : Int32), (0 : Int32), (0 : Int32)] := (by rw [show d82 = nar .char d82 from (own_narb od82).symm]; exact V84)
  have N84 : Fr n0 L84 := n84 n0 N79 (Nat.le_trans Z0 (Nat.le_trans (Nat.le_refl _) le_b3))
  have m85 : h79.size ≤ h84.size := Nat.le_of_eq W84.size.symm
  have D85 := D80.wr W84 (Own.CA.safe D80.hZ.alike f83 (by decide))
  have K86 := fun t k => K81 t (st84 t k)
  have K87 : Own.To p e below B0 T84 (mkF m 106 #[vi p0, vl q1, .second, vl q2, .second, vi p3, vi (Int32.ofNat nn), vr b3, .unset, .unset] [(.int 2), (.long q2), (.int 9), (.ref b3)]) := fun t k => K86 t (by
    refine Own.aload X84 hx (D at_100) rfl rfl ?_
    refine Own.bipush X84 hx 9 (D at_102) rfl ?_
    refine Own.lloadN X84 hx (D at_104) rfl ?_
    refine Own.iconst X84 hx 2 (D at_105) rfl ?_
    exact k)
  obtain ⟨T88, h88, v88, J88, L88, X88, e88, n88, hQ88, st88⟩ := Own.callH (Ls := #[vi p0, vl q1, .second, vl q2, .second, vi p3, vi (Int32.ofNat nn), vr b3, .unset, .unset]) X84 hx D85.hZ e84 [(.long q2), (.int 2)] [(.int 9), (.ref b3)] (cDR l Z a0 hw q2 (2 : Int32) n0 h84 (Nat.le_trans Z0 (Nat.le_trans (Nat.le_trans (Nat.le_trans (Nat.le_trans (Nat.le_trans (Nat.le_trans (Nat.le_trans (Nat.le_trans (Nat.le_trans (Nat.le_trans (Nat.le_trans (Nat.le_trans (Nat.le_trans (Nat.le_trans (Nat.le_trans (Nat.le_trans (Nat.le_trans (Nat.le_trans m4 m8) m13) m17) m22) m26) m31) m35) m40) m44) m49) m53) m58) m62) m67) m71) m76) m80) m85))) D85.hown (W_ hw 2 rfl) (W_ hw 3 rfl) (W_ hw 4 rfl) (W_ hw 5 rfl) (by decide) 2 (by decide) (by decide) (by decide) (by decide) (szOf hml rfl) (lenOf pd_14 rfl) rfl (Nat.le_of_eq rfl) (D at_106)
  have X88 : Stand p l e room_1 (s.setVm s.vm) m #[(.int p0), (.long q1), (.long q2), (.int p3)] below meth c T88 L88 11 332 := X88
  obtain ⟨rfl, NN88, K88⟩ := hQ88
  have N88 : Fr n0 L88 := n88 n0 N84 NN88
  have m89 : h84.size ≤ h88.size := K88.1
  have D89 := D85.keep K88 sf0
  have K90 := fun t k => K87 t (st88 t k)
  obtain ⟨d91, od91, ed91⟩ : ∃ z, own_ok z ∧ own_dr q2 (2 : Int32) = z := ⟨_, own_drok _ _, rfl⟩
  rw [ed91] at K90
  have f92 := (V84.keep K88 nin0)
  obtain ⟨T93, h93, L93, X93, e93, n93, W93, V93, st93⟩ := Own.stc (Ls := #[vi p0, vl q1, .second, vl q2, .second, vi p3, vi (Int32.ofNat nn), vr b3, .unset, .unset]) (S := []) (x := d91) (j := (9 : Int32)) X88 hx D89.hZ e88 f92 9 rfl (by decide) (show 9 < 12 by decide) (D at_109)
  have V93 : Own.CA Z h93 b3 .char [d10, d19, d28, d37, d46, d55, d64, d73, d82, d91, (0 : Int32), (0 : Int32)] := (by rw [show d91 = nar .char d91 from (own_narb od91).symm]; exact V93)
  have N93 : Fr n0 L93 := n93 n0 N88 (Nat.le_trans Z0 (Nat.le_trans (Nat.le_refl _) le_b3))
  have m94 : h88.size ≤ h93.size := Nat.le_of_eq W93.size.symm
  have D94 := D89.wr W93 (Own.CA.safe D89.hZ.alike f92 (by decide))
  have K95 := fun t k => K90 t (st93 t k)
  have K96 : Own.To p e below B0 T93 (mkF m 116 #[vi p0, vl q1, .second, vl q2, .second, vi p3, vi (Int32.ofNat nn), vr b3, .unset, .unset] [(.int 3), (.long q2), (.int 10), (.ref b3)]) := fun t k => K95 t (by
    refine Own.aload X93 hx (D at_110) rfl rfl ?_
    refine Own.bipush X93 hx 10 (D at_112) rfl ?_
    refine Own.lloadN X93 hx (D at_114) rfl ?_
    refine Own.iconst X93 hx 3 (D at_115) rfl ?_
    exact k)
  obtain ⟨T97, h97, v97, J97, L97, X97, e97, n97, hQ97, st97⟩ := Own.callH (Ls := #[vi p0, vl q1, .second, vl q2, .second, vi p3, vi (Int32.ofNat nn), vr b3, .unset, .unset]) X93 hx D94.hZ e93 [(.long q2), (.int 3)] [(.int 10), (.ref b3)] (cDR l Z a0 hw q2 (3 : Int32) n0 h93 (Nat.le_trans Z0 (Nat.le_trans (Nat.le_trans (Nat.le_trans (Nat.le_trans (Nat.le_trans (Nat.le_trans (Nat.le_trans (Nat.le_trans (Nat.le_trans (Nat.le_trans (Nat.le_trans (Nat.le_trans (Nat.le_trans (Nat.le_trans (Nat.le_trans (Nat.le_trans (Nat.le_trans (Nat.le_trans (Nat.le_trans (Nat.le_trans m4 m8) m13) m17) m22) m26) m31) m35) m40) m44) m49) m53) m58) m62) m67) m71) m76) m80) m85) m89) m94))) D94.hown (W_ hw 2 rfl) (W_ hw 3 rfl) (W_ hw 4 rfl) (W_ hw 5 rfl) (by decide) 2 (by decide) (by decide) (by decide) (by decide) (szOf hml rfl) (lenOf pd_14 rfl) rfl (Nat.le_of_eq rfl) (D at_116)
  have X97 : Stand p l e room_1 (s.setVm s.vm) m #[(.int p0), (.long q1), (.long q2), (.int p3)] below meth c T97 L97 12 364 := X97
  obtain ⟨rfl, NN97, K97⟩ := hQ97
  have N97 : Fr n0 L97 := n97 n0 N93 NN97
  have m98 : h93.size ≤ h97.size := K97.1
  have D98 := D94.keep K97 sf0
  have K99 := fun t k => K96 t (st97 t k)
  obtain ⟨d100, od100, ed100⟩ : ∃ z, own_ok z ∧ own_dr q2 (3 : Int32) = z := ⟨_, own_drok _ _, rfl⟩
  rw [ed100] at K99
  have f101 := (V93.keep K97 nin0)
  obtain ⟨T102, h102, L102, X102, e102, n102, W102, V102, st102⟩ := Own.stc (Ls := #[vi p0, vl q1, .second, vl q2, .second, vi p3, vi (Int32.ofNat nn), vr b3, .unset, .unset]) (S := []) (x := d100) (j := (10 : Int32)) X97 hx D98.hZ e97 f101 10 rfl (by decide) (show 10 < 12 by decide) (D at_119)
  have V102 : Own.CA Z h102 b3 .char [d10, d19, d28, d37, d46, d55, d64, d73, d82, d91, d100, (0 : Int32)] := (by rw [show d100 = nar .char d100 from (own_narb od100).symm]; exact V102)
  have N102 : Fr n0 L102 := n102 n0 N97 (Nat.le_trans Z0 (Nat.le_trans (Nat.le_refl _) le_b3))
  have m103 : h97.size ≤ h102.size := Nat.le_of_eq W102.size.symm
  have D103 := D98.wr W102 (Own.CA.safe D98.hZ.alike f101 (by decide))
  have K104 := fun t k => K99 t (st102 t k)
  have K105 : Own.To p e below B0 T102 (mkF m 126 #[vi p0, vl q1, .second, vl q2, .second, vi p3, vi (Int32.ofNat nn), vr b3, .unset, .unset] [(.int 4), (.long q2), (.int 11), (.ref b3)]) := fun t k => K104 t (by
    refine Own.aload X102 hx (D at_120) rfl rfl ?_
    refine Own.bipush X102 hx 11 (D at_122) rfl ?_
    refine Own.lloadN X102 hx (D at_124) rfl ?_
    refine Own.iconst X102 hx 4 (D at_125) rfl ?_
    exact k)
  obtain ⟨T106, h106, v106, J106, L106, X106, e106, n106, hQ106, st106⟩ := Own.callH (Ls := #[vi p0, vl q1, .second, vl q2, .second, vi p3, vi (Int32.ofNat nn), vr b3, .unset, .unset]) X102 hx D103.hZ e102 [(.long q2), (.int 4)] [(.int 11), (.ref b3)] (cDR l Z a0 hw q2 (4 : Int32) n0 h102 (Nat.le_trans Z0 (Nat.le_trans (Nat.le_trans (Nat.le_trans (Nat.le_trans (Nat.le_trans (Nat.le_trans (Nat.le_trans (Nat.le_trans (Nat.le_trans (Nat.le_trans (Nat.le_trans (Nat.le_trans (Nat.le_trans (Nat.le_trans (Nat.le_trans (Nat.le_trans (Nat.le_trans (Nat.le_trans (Nat.le_trans (Nat.le_trans (Nat.le_trans (Nat.le_trans m4 m8) m13) m17) m22) m26) m31) m35) m40) m44) m49) m53) m58) m62) m67) m71) m76) m80) m85) m89) m94) m98) m103))) D103.hown (W_ hw 2 rfl) (W_ hw 3 rfl) (W_ hw 4 rfl) (W_ hw 5 rfl) (by decide) 2 (by decide) (by decide) (by decide) (by decide) (szOf hml rfl) (lenOf pd_14 rfl) rfl (Nat.le_of_eq rfl) (D at_126)
  have X106 : Stand p l e room_1 (s.setVm s.vm) m #[(.int p0), (.long q1), (.long q2), (.int p3)] below meth c T106 L106 13 396 := X106
  obtain ⟨rfl, NN106, K106⟩ := hQ106
  have N106 : Fr n0 L106 := n106 n0 N102 NN106
  have m107 : h102.size ≤ h106.size := K106.1
  have D107 := D103.keep K106 sf0
  have K108 := fun t k => K105 t (st106 t k)
  obtain ⟨d109, od109, ed109⟩ : ∃ z, own_ok z ∧ own_dr q2 (4 : Int32) = z := ⟨_, own_drok _ _, rfl⟩
  rw [ed109] at K108
  have f110 := (V102.keep K106 nin0)
  obtain ⟨T111, h111, L111, X111, e111, n111, W111, V111, st111⟩ := Own.stc (Ls := #[vi p0, vl q1, .second, vl q2, .second, vi p3, vi (Int32.ofNat nn), vr b3, .unset, .unset]) (S := []) (x := d109) (j := (11 : Int32)) X106 hx D107.hZ e106 f110 11 rfl (by decide) (show 11 < 12 by decide) (D at_129)
  have V111 : Own.CA Z h111 b3 .char [d10, d19, d28, d37, d46, d55, d64, d73, d82, d91, d100, d109] := (by rw [show d109 = nar .char d109 from (own_narb od109).symm]; exact V111)
  have N111 : Fr n0 L111 := n111 n0 N106 (Nat.le_trans Z0 (Nat.le_trans (Nat.le_refl _) le_b3))
  have m112 : h106.size ≤ h111.size := Nat.le_of_eq W111.size.symm
  have D112 := D107.wr W111 (Own.CA.safe D107.hZ.alike f110 (by decide))
  have K113 := fun t k => K108 t (st111 t k)
  have K114 : Own.To p e below B0 T111 (mkF m 134 #[vi p0, vl q1, .second, vl q2, .second, vi p3, vi (Int32.ofNat nn), vr b3, .unset, .unset] [(.int (p3 &&& (1 : Int32)))]) := fun t k => K113 t (by
    refine Own.iload X111 hx (D at_130) rfl ?_
    refine Own.iconst X111 hx 1 (D at_132) rfl ?_
    refine Own.iand X111 hx (D at_133) ?_
    exact k)
  obtain ⟨T115, h115, L115, X115, e115, N115, K115, V115, st115⟩ := Own.cst1 (n0 := n0) (Ls := #[vi p0, vl q1, .second, vl q2, .second, vi p3, vi (Int32.ofNat nn), vr b3, .unset, .unset]) (S := []) (y := (p3 &&& (1 : Int32))) (I := 1) (J := 47) (o := 9) X111 hx D112.hZ e111 V111 N111 (Nat.le_trans Z0 (Nat.le_trans (Nat.le_refl _) le_b3)) 1 (1 : Int32) (47 : Int32) rfl rfl rfl (by decide) (show 1 < 12 by decide) rfl rfl (by decide) (by decide) (D at_134) (D at_137) (D at_139) (D at_140) (D at_142)
  have V115 : Own.CA Z h115 b3 .char [d10, (if (p3 &&& (1 : Int32)) = 0 then d19 else (47 : Int32)), d28, d37, d46, d55, d64, d73, d82, d91, d100, d109] := V115
  obtain ⟨d115, od115, ed115⟩ : ∃ z, own_ok z ∧ (if (p3 &&& (1 : Int32)) = 0 then d19 else (47 : Int32)) = z := ⟨_, own_okif od19 ⟨by decide, by decide⟩, rfl⟩
  rw [ed115] at V115
  have m116 : h111.size ≤ h115.size := K115.1
  have D116 := D112.keep K115 (sfS (Own.CA.safe D112.hZ.alike V111 (by decide)) sf0)
  have K117 := fun t k => K114 t (st115 t k)
  have K118 : Own.To p e below B0 T115 (mkF m 147 #[vi p0, vl q1, .second, vl q2, .second, vi p3, vi (Int32.ofNat nn), vr b3, .unset, .unset] [(.int (p3 &&& (2 : Int32)))]) := fun t k => K117 t (by
    refine Own.iload X115 hx (D at_143) rfl ?_
    refine Own.iconst X115 hx 2 (D at_145) rfl ?_
    refine Own.iand X115 hx (D at_146) ?_
    exact k)
  obtain ⟨T119, h119, L119, X119, e119, N119, K119, V119, st119⟩ := Own.cst1 (n0 := n0) (Ls := #[vi p0, vl q1, .second, vl q2, .second, vi p3, vi (Int32.ofNat nn), vr b3, .unset, .unset]) (S := []) (y := (p3 &&& (2 : Int32))) (I := 3) (J := 59) (o := 9) X115 hx D116.hZ e115 V115 N115 (Nat.le_trans Z0 (Nat.le_trans (Nat.le_refl _) le_b3)) 3 (3 : Int32) (59 : Int32) rfl rfl rfl (by decide) (show 3 < 12 by decide) rfl rfl (by decide) (by decide) (D at_147) (D at_150) (D at_152) (D at_153) (D at_155)
  have V119 : Own.CA Z h119 b3 .char [d10, d115, d28, (if (p3 &&& (2 : Int32)) = 0 then d37 else (59 : Int32)), d46, d55, d64, d73, d82, d91, d100, d109] := V119
  obtain ⟨d119, od119, ed119⟩ : ∃ z, own_ok z ∧ (if (p3 &&& (2 : Int32)) = 0 then d37 else (59 : Int32)) = z := ⟨_, own_okif od37 ⟨by decide, by decide⟩, rfl⟩
  rw [ed119] at V119
  have m120 : h115.size ≤ h119.size := K119.1
  have D120 := D116.keep K119 (sfS (Own.CA.safe D116.hZ.alike V115 (by decide)) sf0)
  have K121 := fun t k => K118 t (st119 t k)
  have K122 : Own.To p e below B0 T119 (mkF m 160 #[vi p0, vl q1, .second, vl q2, .second, vi p3, vi (Int32.ofNat nn), vr b3, .unset, .unset] [(.int (p3 &&& (4 : Int32)))]) := fun t k => K121 t (by
    refine Own.iload X119 hx (D at_156) rfl ?_
    refine Own.iconst X119 hx 4 (D at_158) rfl ?_
    refine Own.iand X119 hx (D at_159) ?_
    exact k)
  obtain ⟨T123, h123, L123, X123, e123, N123, K123, V123, st123⟩ := Own.cst1 (n0 := n0) (Ls := #[vi p0, vl q1, .second, vl q2, .second, vi p3, vi (Int32.ofNat nn), vr b3, .unset, .unset]) (S := []) (y := (p3 &&& (4 : Int32))) (I := 5) (J := 61) (o := 9) X119 hx D120.hZ e119 V119 N119 (Nat.le_trans Z0 (Nat.le_trans (Nat.le_refl _) le_b3)) 5 (5 : Int32) (61 : Int32) rfl rfl rfl (by decide) (show 5 < 12 by decide) rfl rfl (by decide) (by decide) (D at_160) (D at_163) (D at_165) (D at_166) (D at_168)
  have V123 : Own.CA Z h123 b3 .char [d10, d115, d28, d119, d46, (if (p3 &&& (4 : Int32)) = 0 then d55 else (61 : Int32)), d64, d73, d82, d91, d100, d109] := V123
  obtain ⟨d123, od123, ed123⟩ : ∃ z, own_ok z ∧ (if (p3 &&& (4 : Int32)) = 0 then d55 else (61 : Int32)) = z := ⟨_, own_okif od55 ⟨by decide, by decide⟩, rfl⟩
  rw [ed123] at V123
  have m124 : h119.size ≤ h123.size := K123.1
  have D124 := D120.keep K123 (sfS (Own.CA.safe D120.hZ.alike V119 (by decide)) sf0)
  have K125 := fun t k => K122 t (st123 t k)
  have K126 : Own.To p e below B0 T123 (mkF m 174 #[vi p0, vl q1, .second, vl q2, .second, vi p3, vi (Int32.ofNat nn), vr b3, .unset, .unset] [(.int (p3 &&& (8 : Int32)))]) := fun t k => K125 t (by
    refine Own.iload X123 hx (D at_169) rfl ?_
    refine Own.bipush X123 hx 8 (D at_171) rfl ?_
    refine Own.iand X123 hx (D at_173) ?_
    exact k)
  obtain ⟨T127, h127, L127, X127, e127, N127, K127, V127, st127⟩ := Own.cst2 (n0 := n0) (Ls := #[vi p0, vl q1, .second, vl q2, .second, vi p3, vi (Int32.ofNat nn), vr b3, .unset, .unset]) (S := []) (y := (p3 &&& (8 : Int32))) (I := 6) (J := 34) (o := 10) X123 hx D124.hZ e123 V123 N123 (Nat.le_trans Z0 (Nat.le_trans (Nat.le_refl _) le_b3)) 6 (6 : Int32) (34 : Int32) rfl rfl rfl (by decide) (show 6 < 12 by decide) rfl rfl (by decide) (by decide) (D at_174) (D at_177) (D at_179) (D at_181) (D at_183)
  have V127 : Own.CA Z h127 b3 .char [d10, d115, d28, d119, d46, d123, (if (p3 &&& (8 : Int32)) = 0 then d64 else (34 : Int32)), d73, d82, d91, d100, d109] := V127
  obtain ⟨d127, od127, ed127⟩ : ∃ z, own_ok z ∧ (if (p3 &&& (8 : Int32)) = 0 then d64 else (34 : Int32)) = z := ⟨_, own_okif od64 ⟨by decide, by decide⟩, rfl⟩
  rw [ed127] at V127
  have m128 : h123.size ≤ h127.size := K127.1
  have D128 := D124.keep K127 (sfS (Own.CA.safe D124.hZ.alike V123 (by decide)) sf0)
  have K129 := fun t k => K126 t (st127 t k)
  have K130 : Own.To p e below B0 T127 (mkF m 189 #[vi p0, vl q1, .second, vl q2, .second, vi p3, vi (Int32.ofNat nn), vr b3, .unset, .unset] [(.int (p3 &&& (16 : Int32)))]) := fun t k => K129 t (by
    refine Own.iload X127 hx (D at_184) rfl ?_
    refine Own.bipush X127 hx 16 (D at_186) rfl ?_
    refine Own.iand X127 hx (D at_188) ?_
    exact k)
  obtain ⟨T131, h131, L131, X131, e131, N131, K131, V131, st131⟩ := Own.cst2 (n0 := n0) (Ls := #[vi p0, vl q1, .second, vl q2, .second, vi p3, vi (Int32.ofNat nn), vr b3, .unset, .unset]) (S := []) (y := (p3 &&& (16 : Int32))) (I := 8) (J := 59) (o := 10) X127 hx D128.hZ e127 V127 N127 (Nat.le_trans Z0 (Nat.le_trans (Nat.le_refl _) le_b3)) 8 (8 : Int32) (59 : Int32) rfl rfl rfl (by decide) (show 8 < 12 by decide) rfl rfl (by decide) (by decide) (D at_189) (D at_192) (D at_194) (D at_196) (D at_198)
  have V131 : Own.CA Z h131 b3 .char [d10, d115, d28, d119, d46, d123, d127, d73, (if (p3 &&& (16 : Int32)) = 0 then d82 else (59 : Int32)), d91, d100, d109] := V131
  obtain ⟨d131, od131, ed131⟩ : ∃ z, own_ok z ∧ (if (p3 &&& (16 : Int32)) = 0 then d82 else (59 : Int32)) = z := ⟨_, own_okif od82 ⟨by decide, by decide⟩, rfl⟩
  rw [ed131] at V131
  have m132 : h127.size ≤ h131.size := K131.1
  have D132 := D128.keep K131 (sfS (Own.CA.safe D128.hZ.alike V127 (by decide)) sf0)
  have K133 := fun t k => K130 t (st131 t k)
  have K134 : Own.To p e below B0 T131 (mkF m 204 #[vi p0, vl q1, .second, vl q2, .second, vi p3, vi (Int32.ofNat nn), vr b3, .unset, .unset] [(.int (p3 &&& (32 : Int32)))]) := fun t k => K133 t (by
    refine Own.iload X131 hx (D at_199) rfl ?_
    refine Own.bipush X131 hx 32 (D at_201) rfl ?_
    refine Own.iand X131 hx (D at_203) ?_
    exact k)
  obtain ⟨T135, h135, L135, X135, e135, N135, K135, V135, st135⟩ := Own.cst2 (n0 := n0) (Ls := #[vi p0, vl q1, .second, vl q2, .second, vi p3, vi (Int32.ofNat nn), vr b3, .unset, .unset]) (S := []) (y := (p3 &&& (32 : Int32))) (I := 10) (J := 61) (o := 10) X131 hx D132.hZ e131 V131 N131 (Nat.le_trans Z0 (Nat.le_trans (Nat.le_refl _) le_b3)) 10 (10 : Int32) (61 : Int32) rfl rfl rfl (by decide) (show 10 < 12 by decide) rfl rfl (by decide) (by decide) (D at_204) (D at_207) (D at_209) (D at_211) (D at_213)
  have V135 : Own.CA Z h135 b3 .char [d10, d115, d28, d119, d46, d123, d127, d73, d131, d91, (if (p3 &&& (32 : Int32)) = 0 then d100 else (61 : Int32)), d109] := V135
  obtain ⟨d135, od135, ed135⟩ : ∃ z, own_ok z ∧ (if (p3 &&& (32 : Int32)) = 0 then d100 else (61 : Int32)) = z := ⟨_, own_okif od100 ⟨by decide, by decide⟩, rfl⟩
  rw [ed135] at V135
  have m136 : h131.size ≤ h135.size := K135.1
  have D136 := D132.keep K135 (sfS (Own.CA.safe D132.hZ.alike V131 (by decide)) sf0)
  have K137 := fun t k => K134 t (st135 t k)
  have K138 : Own.To p e below B0 T135 (mkF m 219 #[vi p0, vl q1, .second, vl q2, .second, vi p3, vi (Int32.ofNat nn), vr b3, .unset, .unset] [(.int (p3 &&& (64 : Int32)))]) := fun t k => K137 t (by
    refine Own.iload X135 hx (D at_214) rfl ?_
    refine Own.bipush X135 hx 64 (D at_216) rfl ?_
    refine Own.iand X135 hx (D at_218) ?_
    exact k)
  obtain ⟨T139, h139, L139, X139, e139, N139, K139, V139, st139⟩ := Own.cst1 (n0 := n0) (Ls := #[vi p0, vl q1, .second, vl q2, .second, vi p3, vi (Int32.ofNat nn), vr b3, .unset, .unset]) (S := []) (y := (p3 &&& (64 : Int32))) (I := 0) (J := 84) (o := 9) X135 hx D136.hZ e135 V135 N135 (Nat.le_trans Z0 (Nat.le_trans (Nat.le_refl _) le_b3)) 0 (0 : Int32) (84 : Int32) rfl rfl rfl (by decide) (show 0 < 12 by decide) rfl rfl (by decide) (by decide) (D at_219) (D at_222) (D at_224) (D at_225) (D at_227)
  have V139 : Own.CA Z h139 b3 .char [(if (p3 &&& (64 : Int32)) = 0 then d10 else (84 : Int32)), d115, d28, d119, d46, d123, d127, d73, d131, d91, d135, d109] := V139
  obtain ⟨d139, od139, ed139⟩ : ∃ z, own_ok z ∧ (if (p3 &&& (64 : Int32)) = 0 then d10 else (84 : Int32)) = z := ⟨_, own_okif od10 ⟨by decide, by decide⟩, rfl⟩
  rw [ed139] at V139
  have m140 : h135.size ≤ h139.size := K139.1
  have D140 := D136.keep K139 (sfS (Own.CA.safe D136.hZ.alike V135 (by decide)) sf0)
  have K141 := fun t k => K138 t (st139 t k)
  have K142 : Own.To p e below B0 T139 (mkF m 234 #[vi p0, vl q1, .second, vl q2, .second, vi p3, vi (Int32.ofNat nn), vr b3, .unset, .unset] [(.int (p3 &&& (128 : Int32)))]) := fun t k => K141 t (by
    refine Own.iload X139 hx (D at_228) rfl ?_
    refine Own.sipush X139 hx 128 (D at_230) rfl ?_
    refine Own.iand X139 hx (D at_233) ?_
    exact k)
  obtain ⟨T143, h143, L143, X143, e143, N143, K143, V143, st143⟩ := Own.cst1 (n0 := n0) (Ls := #[vi p0, vl q1, .second, vl q2, .second, vi p3, vi (Int32.ofNat nn), vr b3, .unset, .unset]) (S := []) (y := (p3 &&& (128 : Int32))) (I := 2) (J := 115) (o := 9) X139 hx D140.hZ e139 V139 N139 (Nat.le_trans Z0 (Nat.le_trans (Nat.le_refl _) le_b3)) 2 (2 : Int32) (115 : Int32) rfl rfl rfl (by decide) (show 2 < 12 by decide) rfl rfl (by decide) (by decide) (D at_234) (D at_237) (D at_239) (D at_240) (D at_242)
  have V143 : Own.CA Z h143 b3 .char [d139, d115, (if (p3 &&& (128 : Int32)) = 0 then d28 else (115 : Int32)), d119, d46, d123, d127, d73, d131, d91, d135, d109] := V143
  obtain ⟨d143, od143, ed143⟩ : ∃ z, own_ok z ∧ (if (p3 &&& (128 : Int32)) = 0 then d28 else (115 : Int32)) = z := ⟨_, own_okif od28 ⟨by decide, by decide⟩, rfl⟩
  rw [ed143] at V143
  have m144 : h139.size ≤ h143.size := K143.1
  have D144 := D140.keep K143 (sfS (Own.CA.safe D140.hZ.alike V139 (by decide)) sf0)
  have K145 := fun t k => K142 t (st143 t k)
  have K146 : Own.To p e below B0 T143 (mkF m 247 #[vi p0, vl q1, .second, vl q2, .second, vi p3, vi (Int32.ofNat nn), vr b3, .unset, .unset] [(.int 13), (.int (Int32.ofNat nn))]) := fun t k => K145 t (by
    refine Own.iload X143 hx (D at_243) rfl ?_
    refine Own.bipush X143 hx 13 (D at_245) rfl ?_
    exact k)
  by_cases hc147 : (Int32.ofNat nn) = (13 : Int32)
  · have K148 : Own.To p e below B0 T143 (mkF m 251 #[vi p0, vl q1, .second, vl q2, .second, vi p3, vi (Int32.ofNat nn), vr b3, .unset, .unset] [.null]) := fun t k => K146 t (by
      refine Own.icmpNo X143 hx (D at_247) (teq hc147).2 ?_
      refine Own.aconstNull X143 hx (D at_250) ?_
      exact k)
    obtain ⟨T149, X149, e149, st149⟩ := Own.callP (Ls := #[vi p0, vl q1, .second, vl q2, .second, vi p3, vi (Int32.ofNat nn), vr b3, .unset, .unset]) X143 hx D144.hZ e143 [.null] [] (cWFN l Z a0 hw   h143 ) D144.hown (W_ hw 43 rfl) (W_ hw 44 rfl) (W_ hw 45 rfl) (W_ hw 46 rfl) (by decide) 0 rfl rfl (by decide) (by decide) (by decide) (by decide) (szOf hml rfl) (lenOf pd_15 rfl) rfl (Nat.le_of_eq rfl) (D at_251)
    have K150 := fun t k => K148 t (st149 t k)
    have K151 : Own.To p e below B0 T149 (mkF m 262 #[vi p0, vl q1, .second, vl q2, .second, vi p3, vi (Int32.ofNat nn), vr b3, .unset, .unset] [(.int 1)]) := fun t k => K150 t (by
      refine Own.ifNo X149 hx (D at_254) ((if0 _ _).trans (teq (by decide : (0 : Int32) = (0 : Int32))).2) ?_
      refine Own.iconst X149 hx 1 (D at_257) rfl ?_
      refine Own.goto X149 hx 262 (D at_258) (by decide) (by decide) ?_
      exact k)
    exact Own.finHN X149 hx (own_hEL hw) e149 D144 (BodyLoose.notSynchronized Bd) Bd.returns (by simp) (D at_262) K151 (by decide) (by decide) ⟨rfl, hn0 ▸ N143⟩
  · have hnn2 : nn ≤ 12 := by have q : nn ≠ 13 := fun q => hc147 (by subst q; rfl); omega
    have f152 := (Own.sta_keepG (Own.sta_keepG (Own.sta_keepG (Own.sta_keepG (Own.sta_keepG (Own.sta_keepG (Own.sta_keepG (Own.sta_keepG (((((((((((((((((((((((((SC.ext E3).ext (Own.Ext.keep (Own.Ext.refl _) K7 all0)).wr W12).ext (Own.Ext.keep (Own.Ext.refl _) K16 all0)).wr W21).ext (Own.Ext.keep (Own.Ext.refl _) K25 all0)).wr W30).ext (Own.Ext.keep (Own.Ext.refl _) K34 all0)).wr W39).ext (Own.Ext.keep (Own.Ext.refl _) K43 all0)).wr W48).ext (Own.Ext.keep (Own.Ext.refl _) K52 all0)).wr W57).ext (Own.Ext.keep (Own.Ext.refl _) K61 all0)).wr W66).ext (Own.Ext.keep (Own.Ext.refl _) K70 all0)).wr W75).ext (Own.Ext.keep (Own.Ext.refl _) K79 all0)).wr W84).ext (Own.Ext.keep (Own.Ext.refl _) K88 all0)).wr W93).ext (Own.Ext.keep (Own.Ext.refl _) K97 all0)).wr W102).ext (Own.Ext.keep (Own.Ext.refl _) K106 all0)).wr W111) K115 (allS (Own.ns_ca V111) all0)) K119 (allS (Own.ns_ca V115) all0)) K123 (allS (Own.ns_ca V119) all0)) K127 (allS (Own.ns_ca V123) all0)) K131 (allS (Own.ns_ca V127) all0)) K135 (allS (Own.ns_ca V131) all0)) K139 (allS (Own.ns_ca V135) all0)) K143 (allS (Own.ns_ca V139) all0))
    have K153 : Own.To p e below B0 T143 (mkF m 267 #[vi p0, vl q1, .second, vl q2, .second, vi p3, vi (Int32.ofNat nn), vr b3, .unset, .unset] [(.int (Int32.ofNat nn)), (.ref b3)]) := fun t k => K146 t (by
      refine Own.icmpYes X143 hx 263 (D at_247) (feq hc147).2 (by decide) (by decide) ?_
      refine Own.aload X143 hx (D at_263) rfl rfl ?_
      refine Own.iload X143 hx (D at_265) rfl ?_
      exact k)
    obtain ⟨vm154, T154, h154, v154, J154, L154, X154, e154, D154, mm154, n154, hQ154, st154⟩ := Own.callHW (Ls := #[vi p0, vl q1, .second, vl q2, .second, vi p3, vi (Int32.ofNat nn), vr b3, .unset, .unset]) X143 hx (own_hEL hw) D144 e143 [(.ref b3), (.int (Int32.ofNat nn))] [] (cMK l Z a0 hw b3 (Int32.ofNat nn) n0 G1 d139 d115 d143 d119 d46 d123 d127 d73 d131 d91 d135 d109 h143 (Nat.le_trans Z0 (Nat.le_trans (Nat.le_trans (Nat.le_trans (Nat.le_trans (Nat.le_trans (Nat.le_trans (Nat.le_trans (Nat.le_trans (Nat.le_trans (Nat.le_trans (Nat.le_trans (Nat.le_trans (Nat.le_trans (Nat.le_trans (Nat.le_trans (Nat.le_trans (Nat.le_trans (Nat.le_trans (Nat.le_trans (Nat.le_trans (Nat.le_trans (Nat.le_trans (Nat.le_trans (Nat.le_trans (Nat.le_trans (Nat.le_trans (Nat.le_trans (Nat.le_trans (Nat.le_trans (Nat.le_trans (Nat.le_trans (Nat.le_trans m4 m8) m13) m17) m22) m26) m31) m35) m40) m44) m49) m53) m58) m62) m67) m71) m76) m80) m85) m89) m94) m98) m103) m107) m112) m116) m120) m124) m128) m132) m136) m140) m144)) V143 od139 od115 od143 od119 od46 od123 od127 od73 od131 od91 od135 od109 ⟨Int32.ofNat_not_neg (by omega), fun q => absurd ((own_lt (a := 12) (by omega) (by omega)).mp q) (by omega)⟩ f152 hG1) (W_ hw 13 rfl) (W_ hw 14 rfl) (W_ hw 4 rfl) (W_ hw 15 rfl) (by decide) 0 (by decide) (by decide) (by decide) (by decide) (szOf hml rfl) (lenOf pd_16 rfl) rfl (Nat.le_of_eq rfl) (D at_267)
    have X154 : Stand p l e room_1 (s.setVm vm154) m #[(.int p0), (.long q1), (.long q2), (.int p3)] below meth c T154 L154 21 436 := X154
    obtain ⟨bm154, rfl, NN154, K154, t154⟩ := hQ154
    have N154 : Fr n0 L154 := n154 n0 N143 NN154
    have m155 : h143.size ≤ h154.size := K154.1
    rw [Own.ofNat_clamp (by omega)] at t154
    obtain ⟨cs, ecs⟩ : ∃ z, z = List.take nn [d139, d115, d143, d119, d46, d123, d127, d73, d131, d91, d135, d109] := ⟨_, rfl⟩
    rw [← ecs] at t154
    have hcl : cs.length ≤ 12 := by rw [ecs, List.length_take]; exact Nat.le_trans (Nat.min_le_left _ _) hnn2
    have K156 := fun t k => K153 t (st154 t k)
    have f157 := (V143.keep K154 nin0)
    have K158 : Own.To p e below B0 T154 (mkF m 276 #[vi p0, vl q1, .second, vl q2, .second, vi p3, vi (Int32.ofNat nn), vr b3, vr bm154, .unset] [(.int (Int32.ofNat nn)), (.ref b3)]) := fun t k => K156 t (by
      refine Own.astore X154 hx #[vi p0, vl q1, .second, vl q2, .second, vi p3, vi (Int32.ofNat nn), vr b3, vr bm154, .unset] (D at_270) rfl rfl ?_
      refine Own.aload X154 hx (D at_272) rfl rfl ?_
      refine Own.iload X154 hx (D at_274) rfl ?_
      exact k)
    obtain ⟨T159, X159, e159, st159⟩ := Own.callP (Ls := #[vi p0, vl q1, .second, vl q2, .second, vi p3, vi (Int32.ofNat nn), vr b3, vr bm154, .unset]) X154 hx D154.hZ e154 [(.ref b3), (.int (Int32.ofNat nn))] [] (cRN l Z a0 hw b3 (Int32.ofNat nn) d139 d115 d143 d119 d46 d123 d127 d73 d131 d91 d135 d109 h154 f157) D154.hown (W_ hw 37 rfl) (W_ hw 38 rfl) (W_ hw 4 rfl) (W_ hw 39 rfl) (by decide) 0 rfl rfl (by decide) (by decide) (by decide) (by decide) (szOf hml rfl) (lenOf pd_17 rfl) rfl (Nat.le_of_eq rfl) (D at_276)
    have K160 := fun t k => K158 t (st159 t k)
    obtain ⟨T161, X161, e161, st161⟩ := Own.callP (Ls := #[vi p0, vl q1, .second, vl q2, .second, vi p3, vi (Int32.ofNat nn), vr b3, vr bm154, .unset]) X159 hx D154.hZ e159 [(.int (own_rn (Int32.ofNat nn) [d139, d115, d143, d119, d46, d123, d127, d73, d131, d91, d135, d109] 12))] [] (c8 l Z a0 hw (own_rn (Int32.ofNat nn) [d139, d115, d143, d119, d46, d123, d127, d73, d131, d91, d135, d109] 12)  h154 ) D154.hown (W_ hw 40 rfl) (W_ hw 41 rfl) (W_ hw 4 rfl) (W_ hw 42 rfl) (by decide) 0 rfl rfl (by decide) (by decide) (by decide) (by decide) (szOf hml rfl) (lenOf pd_5 rfl) rfl (Nat.le_of_eq rfl) (D at_279)
    have K162 := fun t k => K160 t (st161 t k)
    have f163 := (f152.ext (Own.Ext.keep (Own.Ext.refl _) K154 all0))
    have f164 := ((Own.sta_keepG (Own.sta_keepG (Own.sta_keepG (Own.sta_keepG (Own.sta_keepG (Own.sta_keepG (Own.sta_keepG (Own.sta_keepG (((((((((((((((((((((((((SF.ext E3).ext (Own.Ext.keep (Own.Ext.refl _) K7 all0)).wr W12).ext (Own.Ext.keep (Own.Ext.refl _) K16 all0)).wr W21).ext (Own.Ext.keep (Own.Ext.refl _) K25 all0)).wr W30).ext (Own.Ext.keep (Own.Ext.refl _) K34 all0)).wr W39).ext (Own.Ext.keep (Own.Ext.refl _) K43 all0)).wr W48).ext (Own.Ext.keep (Own.Ext.refl _) K52 all0)).wr W57).ext (Own.Ext.keep (Own.Ext.refl _) K61 all0)).wr W66).ext (Own.Ext.keep (Own.Ext.refl _) K70 all0)).wr W75).ext (Own.Ext.keep (Own.Ext.refl _) K79 all0)).wr W84).ext (Own.Ext.keep (Own.Ext.refl _) K88 all0)).wr W93).ext (Own.Ext.keep (Own.Ext.refl _) K97 all0)).wr W102).ext (Own.Ext.keep (Own.Ext.refl _) K106 all0)).wr W111) K115 (allS (Own.ns_ca V111) all0)) K119 (allS (Own.ns_ca V115) all0)) K123 (allS (Own.ns_ca V119) all0)) K127 (allS (Own.ns_ca V123) all0)) K131 (allS (Own.ns_ca V127) all0)) K135 (allS (Own.ns_ca V131) all0)) K139 (allS (Own.ns_ca V135) all0)) K143 (allS (Own.ns_ca V139) all0)).ext (Own.Ext.keep (Own.Ext.refl _) K154 all0))
    have K165 : Own.To p e below B0 T161 (mkF m 286 #[vi p0, vl q1, .second, vl q2, .second, vi p3, vi (Int32.ofNat nn), vr b3, vr bm154, vi (F8 (own_rn (Int32.ofNat nn) [d139, d115, d143, d119, d46, d123, d127, d73, d131, d91, d135, d109] 12))] [(.ref bm154)]) := fun t k => K162 t (by
      refine Own.istore X161 hx #[vi p0, vl q1, .second, vl q2, .second, vi p3, vi (Int32.ofNat nn), vr b3, vr bm154, vi (F8 (own_rn (Int32.ofNat nn) [d139, d115, d143, d119, d46, d123, d127, d73, d131, d91, d135, d109] 12))] (D at_282) rfl ?_
      refine Own.aload X161 hx (D at_284) rfl rfl ?_
      exact k)
    obtain ⟨vm166, T166, h166, X166, e166, D166, E166, st166⟩ := Own.callEW (Ls := #[vi p0, vl q1, .second, vl q2, .second, vi p3, vi (Int32.ofNat nn), vr b3, vr bm154, vi (F8 (own_rn (Int32.ofNat nn) [d139, d115, d143, d119, d46, d123, d127, d73, d131, d91, d135, d109] 12))]) X161 hx (own_hEL hw) D154 e161 [(.ref bm154)] [] (cWF l Z a0 hw bm154 cs G1 G3 h154 t154 f163 hG1 f164 rG3 hcl) (W_ hw 43 rfl) (W_ hw 44 rfl) (W_ hw 45 rfl) (W_ hw 46 rfl) (by decide) 0 (by decide) (by decide) (by decide) (by decide) (szOf hml rfl) (lenOf pd_15 rfl) rfl (Nat.le_of_eq rfl) (D at_286)
    have X166 : Stand p l e room_1 (s.setVm vm166) m #[(.int p0), (.long q1), (.long q2), (.int p3)] below meth c T166 L154 45 1204 := X166
    have m167 : h154.size ≤ h166.size := E166.1
    have K168 := fun t k => K165 t (st166 t k)
    have K169 : Own.To p e below B0 T166 (mkF m 291 #[vi p0, vl q1, .second, vl q2, .second, vi p3, vi (Int32.ofNat nn), vr b3, vr bm154, vi (F8 (own_rn (Int32.ofNat nn) [d139, d115, d143, d119, d46, d123, d127, d73, d131, d91, d135, d109] 12))] [(.int (F8 (own_rn (Int32.ofNat nn) [d139, d115, d143, d119, d46, d123, d127, d73, d131, d91, d135, d109] 12))), (.int (own_wf cs))]) := fun t k => K168 t (by
      refine Own.iload X166 hx (D at_289) rfl ?_
      exact k)
    have K170 : Own.To p e below B0 T166 (mkF m 299 #[vi p0, vl q1, .second, vl q2, .second, vi p3, vi (Int32.ofNat nn), vr b3, vr bm154, vi (F8 (own_rn (Int32.ofNat nn) [d139, d115, d143, d119, d46, d123, d127, d73, d131, d91, d135, d109] 12))] [(.int 1)]) := fun t k => K169 t (by
      refine Own.icmpNo X166 hx (D at_291) (teq (by rw [ecs]; exact own_fin _ rfl nn hnn2 : (own_wf cs) = (F8 (own_rn (Int32.ofNat nn) [d139, d115, d143, d119, d46, d123, d127, d73, d131, d91, d135, d109] 12)))).2 ?_
      refine Own.iconst X166 hx 1 (D at_294) rfl ?_
      refine Own.goto X166 hx 299 (D at_295) (by decide) (by decide) ?_
      exact k)
    exact Own.finHN X166 hx (own_hEL hw) e166 D166 (BodyLoose.notSynchronized Bd) Bd.returns (by simp) (D at_299) K170 (by decide) (by decide) ⟨rfl, hn0 ▸ N154⟩

set_option maxRecDepth 65536 in
set_option maxHeartbeats 40000000 in
theorem comes_1 {Post : Tables → Env → Array Value → State → Outcome → State → Prop} (hpost : ∀ tb e args s v u, (limb_1_1.after args s (.returned v) u = true ∧ limb_1_2.after args s (.returned v) u = true ∧ True) → ReturnedEndW s (.returned v) u (Jvm.fieldLocs frame_1_writes args s ++ Jvm.arrayLocs frame_1_arrays args s ++ Jvm.staticLocs frame_1_statics s) 48 4032 → Post tb e args s (.returned v) u) :
    ArmFor flags0 classFile x code maxLocals ret World_1 tables_1 room_1 Calls_1 rest_1 Pre_1 Post := by
  intro l hfl _ _ p e ha hc hk s m args below hf hA hF happ hP
  obtain ⟨hcalls, hrest, hpre⟩ := hP
  obtain ⟨-, -, -, hnamed, -, -, -, hat⟩ := (Spec.applies_iff hf).mp happ
  obtain ⟨hg, hn⟩ := and_e (Cond.before_iff.mp (show (Jvm.Cond.and given_1 narrow_1).before args s = true from hpre))
  obtain ⟨gA0, gB0⟩ := and_e hg
  obtain ⟨gA1, gB1⟩ := and_e gB0
  obtain ⟨gA2, gB2⟩ := and_e gB1
  obtain ⟨gA3, gB3⟩ := and_e gB2
  obtain ⟨w0, w1, w2, w3, rfl⟩ : ∃ w0 w1 w2 w3 : Value, args = #[w0, w1, w2, w3] := by
    have hs : args.size = 4 := by simpa [Cond.value, given_1] using gA0
    obtain ⟨L⟩ := args
    match L, hs with
    | [w0, w1, w2, w3], _ => exact ⟨w0, w1, w2, w3, rfl⟩
  have hw := fun d (hd : d ∈ tables_1) => atoms_spec (ws := Jvm.Cond.code x code maxLocals ret :: tables_1) hat d (List.mem_cons_of_mem _ hd)
  have hfit : Fit s := fun {y c} hc i hi => by
    obtain ⟨ha, rfl⟩ := Array.getElem?_eq_some_iff.mp hc
    have q := List.all_eq_true.mp ((Array.all_eq_true_iff_forall_mem.mp hF) _ (Array.getElem_mem ha)) i (List.mem_range.mpr hi)
    simpa [Array.getElem?_eq_getElem hi] using q
  obtain ⟨hsets, hown0⟩ := atoms_of _ (rest_1_c_eq ▸ (show rest_1_c.before _ s = true from hrest))
  obtain ⟨i0, ei0⟩ := is_v gA1
  obtain rfl : w0 = (.int i0) := Option.some.inj ei0
  obtain ⟨i1, ei1⟩ := isL_v gA2
  obtain rfl : w1 = (.long i1) := Option.some.inj ei1
  obtain ⟨i2, ei2⟩ := isL_v gA3
  obtain rfl : w2 = (.long i2) := Option.some.inj ei2
  obtain ⟨i3, ei3⟩ := is_v gB3
  obtain rfl : w3 = (.int i3) := Option.some.inj ei3
  obtain ⟨G1, eG1⟩ := is_v (Cond.before_iff.mp (hsets _ (List.mem_of_getElem? (i := 1) rfl)))
  have SC := Sta.start eG1 (Or.inl (hsets _ (List.mem_of_getElem? (i := 0) rfl)))
  have hG1 : ¬ G1 = 0 := gotF (Cond.eq_ints eG1 (Term.int_eval 0)) (not_v (Cond.before_iff.mp (hsets _ (List.mem_of_getElem? (i := 2) rfl))))
  obtain ⟨G3, eG3, rG3⟩ := isR_v (Cond.before_iff.mp (hsets _ (List.mem_of_getElem? (i := 8) rfl)))
  have SF := Sta.start eG3 (Or.inl (hsets _ (List.mem_of_getElem? (i := 7) rfl)))
  have hH : CHv s own_EL s.vm s.heap := CHv.start (own_hEL hw) (fun p hp => hcalls.1 p ((by decide : ∀ p ∈ own_EL, p ∈ consts_1) p hp)) (show Jvm.Lit.compactW.before _ s = true from hsets _ (List.mem_of_getElem? (i := 2) rfl)) (W_ hw 30 rfl) (W_ hw 17 rfl)
  obtain ⟨n, o, h1, h2, h3, _, L, rfl, ⟨rfl, N⟩, -, hq⟩ := c0 l s _ hw i0 i1 i2 i3 G1 G3 s.heap SC hG1 SF rG3 tables_1 p e ha hc hk s m _ below hf ((Spec.applies_iff_loose hf).mp happ).1 ⟨rfl, State.Warmed39.refl s, rfl, hH⟩ trivial
  refine ⟨n, _, h1, h2, h3, hpost _ _ _ _ _ _ ⟨Cond.after_iff.mpr rfl, Cond.after_iff.mpr (eq_i res_at (Term.int_eval (1)) rfl), trivial⟩ ⟨hq.1, hq.2.1, hq.2.2.1, (hq.2.2.2.sift fun y hy => Or.inr (N y hy)).mono (by decide) (by decide)⟩⟩
theorem main_1_1 : Claimed_1_1 := comes_1 fun _ _ _ _ _ _ h hF => ⟨h.1, hF⟩
theorem main_1_2 : Claimed_1_2 := comes_1 fun _ _ _ _ _ _ h hF => ⟨h.2.1, hF⟩


end Jvm.Pilot.@@N@@
namespace Jvm.Pilot.@@N@@
open Jvm Jvm.ClassFile Sem Op Lib Jvm.Free Jvm.Stand Jvm.Pilot.@@N@@.Jvm.D
/-! MADE BY PROGRAM (witnessworld.py) out of the Statement's table words and the real class files: 21 classes; the members and pool entries that the words name. The judged class is class 1, her method 1. -/
namespace start1
open Jvm.ClassFile
def u (s : String) : CpInfo := .utf8 (stringToUtf16 s)
/-- a pool by its gaps: so many unusable entries, then the entry; so many at the end -/
def gap : Nat → List CpInfo → List CpInfo
  | 0, r => r
  | n + 1, r => .unusable :: gap n r
def poolList (es : List (Nat × CpInfo)) (last : Nat) : List CpInfo := es.foldr (fun e r => gap e.1 (e.2 :: r)) (gap last [])
def pool (es : List (Nat × CpInfo)) (last : Nat) : Array CpInfo := ⟨poolList es last⟩
def fileOf (pool : Array CpInfo) (this : Nat) (attrs : Array Attribute := #[]) (ms : Array MethodInfo := #[]) (fl : Nat := 33) (sup : Nat := 0) (ifs : Array Nat := #[]) (fds : Array FieldInfo := #[]) : ClassFile where
  minorVersion := 0
  majorVersion := 65
  constantPool := pool
  accessFlags := fl
  thisClass := this
  superClass := sup
  interfaces := ifs
  fields := fds
  methods := ms
  attributes := attrs
def plain (name : String) (sup : Option ClassId) : Class where
  name := name
  kind := .ordinary
  loader := none
  accessFlags := 33
  super := sup
  interfaces := #[]
  cf := none
  fields := #[]
  methods := #[]
  instanceTypes := #[]
  staticTypes := #[]
  resolved := #[]
  callSites := []
  init := .initialized
  statics := none
  mirror := none

def pool0 : Array CpInfo := pool [(5, u "<init>"), (0, u "()V"), (1, .class_ 10), (1, u "java/lang/Object")] 113

def k0c0 : Code := { maxStack := 0, maxLocals := 1, code := object_method_1_code, exceptionTable := #[], attributes := #[] }
def k0m0 : Method := { name := "<init>", desc := "()V", sig := { parameters := [], returnType := none }, accessFlags := 1, code := some k0c0 }
/-- java/lang/Object -/
def k0 : Class := { plain "java/lang/Object" none with
  accessFlags := 33
  interfaces := #[]
  cf := some (fileOf pool0 8 #[] #[{ accessFlags := 1, nameIndex := 5, descriptorIndex := 6, attributes := #[] }] 33 0 #[] #[])
  fields := #[]
  methods := #[k0m0]
  instanceTypes := #[]
  staticTypes := #[]
  resolved := Array.replicate 124 none
  statics := none }

def pool1 : Array CpInfo := pool [(2, .class_ 4), (1, u "java/lang/Object"), (0, u "<init>"), (0, u "()V"), (0, .integer 2147483647), (0, .methodref 9 10), (0, .class_ 11), (0, .nameAndType 12 13), (0, u "com/example/pliktflow/pliktflow/deposit/MediaTypeIsWellFormedPinLaw"), (0, u "draw"), (0, u "(JI)C"), (0, .methodref 15 16), (0, .class_ 17), (0, .nameAndType 18 19), (0, u "com/example/pliktflow/pliktflow/deposit/MediaType"), (0, u "isWellFormed"), (0, u "(Ljava/lang/String;)Z"), (0, .methodref 9 21), (0, .nameAndType 22 23), (0, u "make"), (0, u "([CI)Ljava/lang/String;"), (0, .methodref 9 25), (0, .nameAndType 26 27), (0, u "run"), (0, u "([CI)I"), (0, .methodref 9 29), (0, .nameAndType 30 31), (0, u "accepts"), (0, u "(I)Z"), (0, .long 511), (1, .long 256), (1, .long 255), (1, .long 31), (1, .methodref 9 41), (0, .nameAndType 42 43), (0, u "table"), (0, u "(I)C"), (0, .class_ 45), (0, u "java/lang/String"), (0, .methodref 44 47), (0, .nameAndType 5 48), (0, u "([C)V"), (0, .methodref 9 50), (0, .nameAndType 51 52), (0, u "step"), (0, u "(IC)I"), (0, .methodref 9 54), (0, .nameAndType 55 56), (0, u "isLd"), (0, u "(C)Z"), (0, .methodref 9 58), (0, .nameAndType 59 56), (0, u "isNameChar"), (0, .methodref 9 61), (0, .nameAndType 62 56), (0, u "isWs"), (0, .methodref 9 64), (0, .nameAndType 65 56), (0, u "isTokenChar"), (0, .methodref 9 67), (0, .nameAndType 68 56), (0, u "isText"), (0, .methodref 9 70), (0, .nameAndType 71 56), (0, u "isNameMark"), (2, u "law"), (0, u "(IJJI)Z")] 5

def k1m0 : Method := { name := "<init>", desc := "()V", sig := { parameters := [], returnType := none }, accessFlags := 2, code := none }
def k1c1 : Code := { maxStack := 5, maxLocals := 10, code := code, exceptionTable := #[], attributes := #[] }
def k1m1 : Method := { name := "law", desc := "(IJJI)Z", sig := { parameters := [.int, .long, .long, .int], returnType := some .boolean }, accessFlags := 9, code := some k1c1 }
def k1c2 : Code := { maxStack := 4, maxLocals := 2, code := method_3_code, exceptionTable := #[], attributes := #[] }
def k1m2 : Method := { name := "table", desc := "(I)C", sig := { parameters := [.int], returnType := some .char }, accessFlags := 10, code := some k1c2 }
def k1c3 : Code := { maxStack := 4, maxLocals := 5, code := method_4_code, exceptionTable := #[], attributes := #[] }
def k1m3 : Method := { name := "draw", desc := "(JI)C", sig := { parameters := [.long, .int], returnType := some .char }, accessFlags := 10, code := some k1c3 }
def k1c4 : Code := { maxStack := 7, maxLocals := 2, code := method_5_code, exceptionTable := #[], attributes := #[] }
def k1m4 : Method := { name := "make", desc := "([CI)Ljava/lang/String;", sig := { parameters := [(.array .char), .int], returnType := some (.object "java/lang/String") }, accessFlags := 10, code := some k1c4 }
def k1c5 : Code := { maxStack := 3, maxLocals := 3, code := method_6_code, exceptionTable := #[], attributes := #[] }
def k1m5 : Method := { name := "run", desc := "([CI)I", sig := { parameters := [(.array .char), .int], returnType := some .int }, accessFlags := 10, code := some k1c5 }
def k1c6 : Code := { maxStack := 2, maxLocals := 1, code := method_7_code, exceptionTable := #[], attributes := #[] }
def k1m6 : Method := { name := "accepts", desc := "(I)Z", sig := { parameters := [.int], returnType := some .boolean }, accessFlags := 10, code := some k1c6 }
def k1c7 : Code := { maxStack := 2, maxLocals := 2, code := method_8_code, exceptionTable := #[], attributes := #[] }
def k1m7 : Method := { name := "step", desc := "(IC)I", sig := { parameters := [.int, .char], returnType := some .int }, accessFlags := 10, code := some k1c7 }
def k1c8 : Code := { maxStack := 2, maxLocals := 1, code := method_9_code, exceptionTable := #[], attributes := #[] }
def k1m8 : Method := { name := "isLd", desc := "(C)Z", sig := { parameters := [.char], returnType := some .boolean }, accessFlags := 10, code := some k1c8 }
def k1c9 : Code := { maxStack := 2, maxLocals := 1, code := method_10_code, exceptionTable := #[], attributes := #[] }
def k1m9 : Method := { name := "isNameMark", desc := "(C)Z", sig := { parameters := [.char], returnType := some .boolean }, accessFlags := 10, code := some k1c9 }
def k1c10 : Code := { maxStack := 1, maxLocals := 1, code := method_11_code, exceptionTable := #[], attributes := #[] }
def k1m10 : Method := { name := "isNameChar", desc := "(C)Z", sig := { parameters := [.char], returnType := some .boolean }, accessFlags := 10, code := some k1c10 }
def k1c11 : Code := { maxStack := 2, maxLocals := 1, code := method_12_code, exceptionTable := #[], attributes := #[] }
def k1m11 : Method := { name := "isTokenChar", desc := "(C)Z", sig := { parameters := [.char], returnType := some .boolean }, accessFlags := 10, code := some k1c11 }
def k1c12 : Code := { maxStack := 2, maxLocals := 1, code := method_13_code, exceptionTable := #[], attributes := #[] }
def k1m12 : Method := { name := "isWs", desc := "(C)Z", sig := { parameters := [.char], returnType := some .boolean }, accessFlags := 10, code := some k1c12 }
def k1c13 : Code := { maxStack := 2, maxLocals := 1, code := method_14_code, exceptionTable := #[], attributes := #[] }
def k1m13 : Method := { name := "isText", desc := "(C)Z", sig := { parameters := [.char], returnType := some .boolean }, accessFlags := 10, code := some k1c13 }
/-- com/example/pliktflow/pliktflow/deposit/MediaTypeIsWellFormedPinLaw -/
def k1 : Class := { plain "com/example/pliktflow/pliktflow/deposit/MediaTypeIsWellFormedPinLaw" (some 0) with
  accessFlags := 49
  interfaces := #[]
  cf := some (fileOf pool1 9 #[] #[{ accessFlags := 2, nameIndex := 5, descriptorIndex := 6, attributes := #[] }, { accessFlags := 9, nameIndex := 74, descriptorIndex := 75, attributes := #[] }, { accessFlags := 10, nameIndex := 42, descriptorIndex := 43, attributes := #[] }, { accessFlags := 10, nameIndex := 12, descriptorIndex := 13, attributes := #[] }, { accessFlags := 10, nameIndex := 22, descriptorIndex := 23, attributes := #[] }, { accessFlags := 10, nameIndex := 26, descriptorIndex := 27, attributes := #[] }, { accessFlags := 10, nameIndex := 30, descriptorIndex := 31, attributes := #[] }, { accessFlags := 10, nameIndex := 51, descriptorIndex := 52, attributes := #[] }, { accessFlags := 10, nameIndex := 55, descriptorIndex := 56, attributes := #[] }, { accessFlags := 10, nameIndex := 71, descriptorIndex := 56, attributes := #[] }, { accessFlags := 10, nameIndex := 59, descriptorIndex := 56, attributes := #[] }, { accessFlags := 10, nameIndex := 65, descriptorIndex := 56, attributes := #[] }, { accessFlags := 10, nameIndex := 62, descriptorIndex := 56, attributes := #[] }, { accessFlags := 10, nameIndex := 68, descriptorIndex := 56, attributes := #[] }] 49 2 #[] #[])
  fields := #[]
  methods := #[k1m0, k1m1, k1m2, k1m3, k1m4, k1m5, k1m6, k1m7, k1m8, k1m9, k1m10, k1m11, k1m12, k1m13]
  instanceTypes := #[]
  staticTypes := #[]
  resolved := Array.replicate 81 none
  statics := none }

def pool2 : Array CpInfo := pool [(1, .class_ 2), (0, u "java/io/Serializable"), (0, .class_ 4), (0, u "java/lang/Object")] 2

/-- java/io/Serializable -/
def k2 : Class := { plain "java/io/Serializable" (some 0) with
  accessFlags := 1537
  interfaces := #[]
  cf := some (fileOf pool2 1 #[] #[] 1537 3 #[] #[])
  fields := #[]
  methods := #[]
  instanceTypes := #[]
  staticTypes := #[]
  resolved := Array.replicate 7 none
  statics := none }

def pool3 : Array CpInfo := pool [(1, .class_ 2), (0, u "java/lang/Comparable"), (0, .class_ 4), (0, u "java/lang/Object")] 7

/-- java/lang/Comparable -/
def k3 : Class := { plain "java/lang/Comparable" (some 0) with
  accessFlags := 1537
  interfaces := #[]
  cf := some (fileOf pool3 1 #[] #[] 1537 3 #[] #[])
  fields := #[]
  methods := #[]
  instanceTypes := #[]
  staticTypes := #[]
  resolved := Array.replicate 12 none
  statics := none }

def pool4 : Array CpInfo := pool [(2, .class_ 4), (1, u "java/lang/CharSequence"), (42, .class_ 48), (0, u "java/lang/CharSequence$1CodePointIterator"), (10, .class_ 60), (0, u "java/lang/CharSequence$1CharIterator"), (5, .class_ 67), (0, u "java/lang/Object")] 63

/-- java/lang/CharSequence -/
def k4 : Class := { plain "java/lang/CharSequence" (some 0) with
  accessFlags := 1537
  interfaces := #[]
  cf := some (fileOf pool4 2 #[.nestMembers #[47, 59]] #[] 1537 66 #[] #[])
  fields := #[]
  methods := #[]
  instanceTypes := #[]
  staticTypes := #[]
  resolved := Array.replicate 131 none
  statics := none }

def pool5 : Array CpInfo := pool [(1, .class_ 2), (0, u "java/lang/constant/Constable"), (0, .class_ 4), (0, u "java/lang/Object")] 6

/-- java/lang/constant/Constable -/
def k5 : Class := { plain "java/lang/constant/Constable" (some 0) with
  accessFlags := 1537
  interfaces := #[]
  cf := some (fileOf pool5 1 #[] #[] 1537 3 #[] #[])
  fields := #[]
  methods := #[]
  instanceTypes := #[]
  staticTypes := #[]
  resolved := Array.replicate 11 none
  statics := none }

def pool6 : Array CpInfo := pool [(1, .class_ 2), (0, u "java/lang/constant/ConstantDesc"), (0, .class_ 4), (0, u "java/lang/Object")] 32

/-- java/lang/constant/ConstantDesc -/
def k6 : Class := { plain "java/lang/constant/ConstantDesc" (some 0) with
  accessFlags := 1537
  interfaces := #[]
  cf := some (fileOf pool6 1 #[] #[] 1537 3 #[] #[])
  fields := #[]
  methods := #[]
  instanceTypes := #[]
  staticTypes := #[]
  resolved := Array.replicate 37 none
  statics := none }

def pool7 : Array CpInfo := pool [(1, .methodref 2 3), (0, .class_ 4), (0, .nameAndType 5 6), (0, u "java/lang/Object"), (0, u "<init>"), (0, u "()V"), (0, .string 8), (0, u ""), (0, .fieldref 10 11), (0, .class_ 12), (0, .nameAndType 13 14), (0, u "java/lang/String"), (0, u "value"), (0, u "[B"), (0, .fieldref 10 16), (0, .nameAndType 17 18), (0, u "coder"), (0, u "B"), (2, u "hash"), (0, u "I"), (2, u "hashIsZero"), (0, u "Z"), (0, .methodref 10 28), (0, .nameAndType 5 29), (0, u "([CIILjava/lang/Void;)V"), (8, .fieldref 10 39), (0, .nameAndType 40 26), (0, u "COMPACT_STRINGS"), (1, .class_ 44), (1, u "java/lang/StringUTF16"), (0, u "compress"), (1, .methodref 42 48), (0, .nameAndType 49 50), (0, u "coderFromArrayLen"), (0, u "([BI)B"), (56, .class_ 109), (1, u "java/lang/StringLatin1"), (32, u "()Z"), (34, .methodref 42 178), (0, .nameAndType 45 179), (0, u "([CII)[B"), (154, u "()I"), (0, .methodref 10 336), (0, .nameAndType 17 337), (0, u "()B"), (25, u "([BI)C"), (27, u "(II)V"), (35, u "(I)C"), (64, .methodref 10 493), (0, .nameAndType 494 142), (0, u "isLatin1"), (0, .methodref 107 496), (0, .nameAndType 497 363), (0, u "charAt"), (3, u "checkIndex"), (3, .methodref 10 506), (0, .nameAndType 507 334), (0, u "length"), (67, .class_ 576), (0, u "java/lang/CharSequence"), (22, u "CASE_INSENSITIVE_ORDER"), (0, u "Ljava/util/Comparator;"), (32, .methodref 10 634), (0, .nameAndType 635 636), (0, u "indexOf"), (0, u "(II)I"), (0, .methodref 107 638), (0, .nameAndType 635 639), (0, u "([BIII)I"), (125, u "(I)I"), (244, u "([C)V"), (42, .fieldref 1054 1055), (0, .class_ 1056), (0, .nameAndType 1057 1058), (0, u "jdk/internal/util/Preconditions"), (0, u "SIOOBE_FORMATTER"), (0, u "Ljava/util/function/BiFunction;"), (0, .methodref 1054 1060), (0, .nameAndType 501 1061), (0, u "(IILjava/util/function/BiFunction;)I"), (39, u "serialPersistentFields"), (0, u "[Ljava/io/ObjectStreamField;"), (0, .class_ 1104), (0, u "java/lang/String$CaseInsensitiveComparator"), (1, .class_ 1107), (0, u "java/io/Serializable"), (0, .class_ 1109), (0, u "java/lang/Comparable"), (0, .class_ 1111), (0, u "java/lang/constant/Constable"), (0, .class_ 1113), (0, u "java/lang/constant/ConstantDesc"), (2, u "serialVersionUID"), (0, u "J"), (3, u "REPL"), (0, u "C"), (2, u "LATIN1"), (1, u "UTF16")] 323

def k7m0 : Method := { name := "<init>", desc := "()V", sig := { parameters := [], returnType := none }, accessFlags := 1, code := none }
def k7c1 : Code := { maxStack := 5, maxLocals := 2, code := jdk_42_method_3_code, exceptionTable := #[], attributes := #[] }
def k7m1 : Method := { name := "<init>", desc := "([C)V", sig := { parameters := [(.array .char)], returnType := none }, accessFlags := 1, code := some k7c1 }
def k7c2 : Code := { maxStack := 2, maxLocals := 1, code := jdk_42_method_54_code, exceptionTable := #[], attributes := #[] }
def k7m2 : Method := { name := "length", desc := "()I", sig := { parameters := [], returnType := some .int }, accessFlags := 1, code := some k7c2 }
def k7c3 : Code := { maxStack := 2, maxLocals := 2, code := jdk_42_method_56_code, exceptionTable := #[], attributes := #[] }
def k7m3 : Method := { name := "charAt", desc := "(I)C", sig := { parameters := [.int], returnType := some .char }, accessFlags := 1, code := some k7c3 }
def k7c4 : Code := { maxStack := 3, maxLocals := 2, code := jdk_42_method_79_code, exceptionTable := #[], attributes := #[] }
def k7m4 : Method := { name := "indexOf", desc := "(I)I", sig := { parameters := [.int], returnType := some .int }, accessFlags := 1, code := some k7c4 }
def k7c5 : Code := { maxStack := 4, maxLocals := 3, code := jdk_42_method_80_code, exceptionTable := #[], attributes := #[] }
def k7m5 : Method := { name := "indexOf", desc := "(II)I", sig := { parameters := [.int, .int], returnType := some .int }, accessFlags := 1, code := some k7c5 }
def k7c6 : Code := { maxStack := 4, maxLocals := 6, code := jdk_42_method_149_code, exceptionTable := #[], attributes := #[] }
def k7m6 : Method := { name := "<init>", desc := "([CIILjava/lang/Void;)V", sig := { parameters := [(.array .char), .int, .int, (.object "java/lang/Void")], returnType := none }, accessFlags := 2, code := some k7c6 }
def k7c7 : Code := { maxStack := 1, maxLocals := 1, code := jdk_42_method_152_code, exceptionTable := #[], attributes := #[] }
def k7m7 : Method := { name := "coder", desc := "()B", sig := { parameters := [], returnType := some .byte }, accessFlags := 0, code := some k7c7 }
def k7c8 : Code := { maxStack := 1, maxLocals := 1, code := jdk_42_method_154_code, exceptionTable := #[], attributes := #[] }
def k7m8 : Method := { name := "isLatin1", desc := "()Z", sig := { parameters := [], returnType := some .boolean }, accessFlags := 0, code := some k7c8 }
def k7c9 : Code := { maxStack := 3, maxLocals := 2, code := jdk_42_method_155_code, exceptionTable := #[], attributes := #[] }
def k7m9 : Method := { name := "checkIndex", desc := "(II)V", sig := { parameters := [.int, .int], returnType := none }, accessFlags := 8, code := some k7c9 }
/-- java/lang/String -/
def k7 : Class := { plain "java/lang/String" (some 0) with
  accessFlags := 49
  interfaces := #[2, 3, 4, 5, 6]
  cf := some (fileOf pool7 10 #[.nestMembers #[1103]] #[{ accessFlags := 1, nameIndex := 5, descriptorIndex := 6, attributes := #[] }, { accessFlags := 1, nameIndex := 5, descriptorIndex := 1010, attributes := #[] }, { accessFlags := 1, nameIndex := 507, descriptorIndex := 334, attributes := #[] }, { accessFlags := 1, nameIndex := 497, descriptorIndex := 427, attributes := #[] }, { accessFlags := 1, nameIndex := 635, descriptorIndex := 765, attributes := #[] }, { accessFlags := 1, nameIndex := 635, descriptorIndex := 636, attributes := #[] }, { accessFlags := 2, nameIndex := 5, descriptorIndex := 29, attributes := #[] }, { accessFlags := 0, nameIndex := 17, descriptorIndex := 337, attributes := #[] }, { accessFlags := 0, nameIndex := 494, descriptorIndex := 142, attributes := #[] }, { accessFlags := 8, nameIndex := 501, descriptorIndex := 391, attributes := #[] }] 49 2 #[1106, 1108, 575, 1110, 1112] #[{ accessFlags := 18, nameIndex := 13, descriptorIndex := 14, attributes := #[] }, { accessFlags := 18, nameIndex := 17, descriptorIndex := 18, attributes := #[] }, { accessFlags := 2, nameIndex := 21, descriptorIndex := 22, attributes := #[] }, { accessFlags := 2, nameIndex := 25, descriptorIndex := 26, attributes := #[] }, { accessFlags := 26, nameIndex := 1116, descriptorIndex := 1117, attributes := #[] }, { accessFlags := 24, nameIndex := 40, descriptorIndex := 26, attributes := #[] }, { accessFlags := 26, nameIndex := 1101, descriptorIndex := 1102, attributes := #[] }, { accessFlags := 26, nameIndex := 1121, descriptorIndex := 1122, attributes := #[] }, { accessFlags := 25, nameIndex := 599, descriptorIndex := 600, attributes := #[] }, { accessFlags := 24, nameIndex := 1125, descriptorIndex := 18, attributes := #[] }, { accessFlags := 24, nameIndex := 1127, descriptorIndex := 18, attributes := #[] }])
  fields := #[{ name := "value", type := (.array .byte), accessFlags := 18, slot := 0, constantValue := 0 }, { name := "coder", type := .byte, accessFlags := 18, slot := 1, constantValue := 0 }, { name := "hash", type := .int, accessFlags := 2, slot := 2, constantValue := 0 }, { name := "hashIsZero", type := .boolean, accessFlags := 2, slot := 3, constantValue := 0 }, { name := "serialVersionUID", type := .long, accessFlags := 26, slot := 0, constantValue := 0 }, { name := "COMPACT_STRINGS", type := .boolean, accessFlags := 24, slot := 1, constantValue := 0 }, { name := "serialPersistentFields", type := (.array (.object "java/io/ObjectStreamField")), accessFlags := 26, slot := 2, constantValue := 0 }, { name := "REPL", type := .char, accessFlags := 26, slot := 3, constantValue := 0 }, { name := "CASE_INSENSITIVE_ORDER", type := (.object "java/util/Comparator"), accessFlags := 25, slot := 4, constantValue := 0 }, { name := "LATIN1", type := .byte, accessFlags := 24, slot := 5, constantValue := 0 }, { name := "UTF16", type := .byte, accessFlags := 24, slot := 6, constantValue := 0 }]
  methods := #[k7m0, k7m1, k7m2, k7m3, k7m4, k7m5, k7m6, k7m7, k7m8, k7m9]
  instanceTypes := #[(.array .byte), .byte, .int, .boolean]
  staticTypes := #[.long, .boolean, (.array (.object "java/io/ObjectStreamField")), .char, (.object "java/util/Comparator"), .byte, .byte]
  resolved := Array.replicate 1451 none
  statics := some 0 }

def pool8 : Array CpInfo := pool [(2, .class_ 4), (1, u "java/lang/Object"), (0, u "<init>"), (0, u "()V"), (0, .methodref 8 9), (0, .class_ 10), (0, .nameAndType 11 12), (0, u "com/example/pliktflow/pliktflow/deposit/MediaType"), (0, u "nameEnd"), (0, u "(Ljava/lang/String;I)I"), (0, .methodref 8 14), (0, .nameAndType 15 16), (0, u "isAt"), (0, u "(Ljava/lang/String;IC)Z"), (0, .methodref 18 19), (0, .class_ 20), (0, .nameAndType 21 22), (0, u "java/lang/String"), (0, u "length"), (0, u "()I"), (0, .methodref 8 24), (0, .nameAndType 25 12), (0, u "whiteSpaceEnd"), (0, .methodref 18 27), (0, .nameAndType 28 29), (0, u "charAt"), (0, u "(I)C"), (0, .methodref 8 31), (0, .nameAndType 32 12), (0, u "parameterEnd"), (0, .methodref 8 34), (0, .nameAndType 35 36), (0, u "isLetterOrDigit"), (0, u "(C)Z"), (0, .string 38), (0, u "!#$&^_.+-"), (0, .methodref 8 40), (0, .nameAndType 41 42), (0, u "isLetterDigitOr"), (0, u "(CLjava/lang/String;)Z"), (0, .methodref 8 44), (0, .nameAndType 45 12), (0, u "tokenEnd"), (0, .methodref 8 47), (0, .nameAndType 48 12), (0, u "quotedStringEnd"), (0, .string 50), (0, u "!#$%&'*+.^_`|~-"), (0, .methodref 8 52), (0, .nameAndType 53 36), (0, u "isTextCharacter"), (0, .methodref 8 55), (0, .nameAndType 56 36), (0, u "isSpaceOrTab"), (0, .methodref 18 58), (0, .nameAndType 59 60), (0, u "indexOf"), (0, u "(I)I"), (0, u "NO_MATCH"), (0, u "I"), (2, u "NAME_MARKS"), (0, u "Ljava/lang/String;"), (0, u "TOKEN_MARKS"), (2, u "isWellFormed"), (0, u "(Ljava/lang/String;)Z")] 3

def k8m0 : Method := { name := "<init>", desc := "()V", sig := { parameters := [], returnType := none }, accessFlags := 2, code := none }
def k8c1 : Code := { maxStack := 3, maxLocals := 3, code := prog_22_method_2_code, exceptionTable := #[], attributes := #[] }
def k8m1 : Method := { name := "isWellFormed", desc := "(Ljava/lang/String;)Z", sig := { parameters := [(.object "java/lang/String")], returnType := some .boolean }, accessFlags := 8, code := some k8c1 }
def k8c2 : Code := { maxStack := 2, maxLocals := 3, code := prog_22_method_3_code, exceptionTable := #[], attributes := #[] }
def k8m2 : Method := { name := "nameEnd", desc := "(Ljava/lang/String;I)I", sig := { parameters := [(.object "java/lang/String"), .int], returnType := some .int }, accessFlags := 10, code := some k8c2 }
def k8c3 : Code := { maxStack := 3, maxLocals := 4, code := prog_22_method_4_code, exceptionTable := #[], attributes := #[] }
def k8m3 : Method := { name := "parameterEnd", desc := "(Ljava/lang/String;I)I", sig := { parameters := [(.object "java/lang/String"), .int], returnType := some .int }, accessFlags := 10, code := some k8c3 }
def k8c4 : Code := { maxStack := 2, maxLocals := 3, code := prog_22_method_5_code, exceptionTable := #[], attributes := #[] }
def k8m4 : Method := { name := "tokenEnd", desc := "(Ljava/lang/String;I)I", sig := { parameters := [(.object "java/lang/String"), .int], returnType := some .int }, accessFlags := 10, code := some k8c4 }
def k8c5 : Code := { maxStack := 2, maxLocals := 4, code := prog_22_method_6_code, exceptionTable := #[], attributes := #[] }
def k8m5 : Method := { name := "quotedStringEnd", desc := "(Ljava/lang/String;I)I", sig := { parameters := [(.object "java/lang/String"), .int], returnType := some .int }, accessFlags := 10, code := some k8c5 }
def k8c6 : Code := { maxStack := 2, maxLocals := 3, code := prog_22_method_7_code, exceptionTable := #[], attributes := #[] }
def k8m6 : Method := { name := "whiteSpaceEnd", desc := "(Ljava/lang/String;I)I", sig := { parameters := [(.object "java/lang/String"), .int], returnType := some .int }, accessFlags := 10, code := some k8c6 }
def k8c7 : Code := { maxStack := 2, maxLocals := 3, code := prog_22_method_8_code, exceptionTable := #[], attributes := #[] }
def k8m7 : Method := { name := "isAt", desc := "(Ljava/lang/String;IC)Z", sig := { parameters := [(.object "java/lang/String"), .int, .char], returnType := some .boolean }, accessFlags := 10, code := some k8c7 }
def k8c8 : Code := { maxStack := 2, maxLocals := 2, code := prog_22_method_9_code, exceptionTable := #[], attributes := #[] }
def k8m8 : Method := { name := "isLetterDigitOr", desc := "(CLjava/lang/String;)Z", sig := { parameters := [.char, (.object "java/lang/String")], returnType := some .boolean }, accessFlags := 10, code := some k8c8 }
def k8c9 : Code := { maxStack := 2, maxLocals := 1, code := prog_22_method_10_code, exceptionTable := #[], attributes := #[] }
def k8m9 : Method := { name := "isLetterOrDigit", desc := "(C)Z", sig := { parameters := [.char], returnType := some .boolean }, accessFlags := 10, code := some k8c9 }
def k8c10 : Code := { maxStack := 2, maxLocals := 1, code := prog_22_method_11_code, exceptionTable := #[], attributes := #[] }
def k8m10 : Method := { name := "isTextCharacter", desc := "(C)Z", sig := { parameters := [.char], returnType := some .boolean }, accessFlags := 10, code := some k8c10 }
def k8c11 : Code := { maxStack := 2, maxLocals := 1, code := prog_22_method_12_code, exceptionTable := #[], attributes := #[] }
def k8m11 : Method := { name := "isSpaceOrTab", desc := "(C)Z", sig := { parameters := [.char], returnType := some .boolean }, accessFlags := 10, code := some k8c11 }
/-- com/example/pliktflow/pliktflow/deposit/MediaType -/
def k8 : Class := { plain "com/example/pliktflow/pliktflow/deposit/MediaType" (some 0) with
  accessFlags := 48
  interfaces := #[]
  cf := some (fileOf pool8 8 #[] #[{ accessFlags := 2, nameIndex := 5, descriptorIndex := 6, attributes := #[] }, { accessFlags := 8, nameIndex := 70, descriptorIndex := 71, attributes := #[] }, { accessFlags := 10, nameIndex := 11, descriptorIndex := 12, attributes := #[] }, { accessFlags := 10, nameIndex := 32, descriptorIndex := 12, attributes := #[] }, { accessFlags := 10, nameIndex := 45, descriptorIndex := 12, attributes := #[] }, { accessFlags := 10, nameIndex := 48, descriptorIndex := 12, attributes := #[] }, { accessFlags := 10, nameIndex := 25, descriptorIndex := 12, attributes := #[] }, { accessFlags := 10, nameIndex := 15, descriptorIndex := 16, attributes := #[] }, { accessFlags := 10, nameIndex := 41, descriptorIndex := 42, attributes := #[] }, { accessFlags := 10, nameIndex := 35, descriptorIndex := 36, attributes := #[] }, { accessFlags := 10, nameIndex := 53, descriptorIndex := 36, attributes := #[] }, { accessFlags := 10, nameIndex := 56, descriptorIndex := 36, attributes := #[] }] 48 2 #[] #[{ accessFlags := 26, nameIndex := 61, descriptorIndex := 62, attributes := #[] }, { accessFlags := 26, nameIndex := 65, descriptorIndex := 66, attributes := #[] }, { accessFlags := 26, nameIndex := 67, descriptorIndex := 66, attributes := #[] }])
  fields := #[{ name := "NO_MATCH", type := .int, accessFlags := 26, slot := 0, constantValue := 0 }, { name := "NAME_MARKS", type := (.object "java/lang/String"), accessFlags := 26, slot := 1, constantValue := 0 }, { name := "TOKEN_MARKS", type := (.object "java/lang/String"), accessFlags := 26, slot := 2, constantValue := 0 }]
  methods := #[k8m0, k8m1, k8m2, k8m3, k8m4, k8m5, k8m6, k8m7, k8m8, k8m9, k8m10, k8m11]
  instanceTypes := #[]
  staticTypes := #[.int, (.object "java/lang/String"), (.object "java/lang/String")]
  resolved := Array.replicate 75 none
  statics := none }

def pool9 : Array CpInfo := pool [(6, .class_ 8), (1, u "java/lang/Object"), (0, u "<init>"), (0, u "()V"), (1, .class_ 14), (1, u "java/lang/StringUTF16"), (31, u "$assertionsDisabled"), (0, u "Z"), (13, u "HI_BYTE_SHIFT"), (0, u "I"), (2, u "LO_BYTE_SHIFT"), (49, .methodref 12 116), (0, .nameAndType 117 118), (0, u "compress"), (0, u "([CI[BII)I"), (3, u "([CII)[B"), (138, u "coderFromArrayLen"), (0, u "([BI)B"), (106, .class_ 371), (1, u "java/lang/StringUTF16$LinesSpliterator"), (58, u "MAX_LENGTH"), (196, .class_ 628), (0, u "java/lang/StringUTF16$CodePointsSpliterator"), (0, .class_ 630), (0, u "java/lang/StringUTF16$CharsSpliterator")] 4

def k9m0 : Method := { name := "<init>", desc := "()V", sig := { parameters := [], returnType := none }, accessFlags := 0, code := none }
def k9c1 : Code := { maxStack := 2, maxLocals := 2, code := jdk_52_method_15_code, exceptionTable := #[], attributes := #[] }
def k9m1 : Method := { name := "coderFromArrayLen", desc := "([BI)B", sig := { parameters := [(.array .byte), .int], returnType := some .byte }, accessFlags := 8, code := some k9c1 }
def k9c2 : Code := { maxStack := 5, maxLocals := 6, code := jdk_52_method_16_code, exceptionTable := #[], attributes := #[] }
def k9m2 : Method := { name := "compress", desc := "([CII)[B", sig := { parameters := [(.array .char), .int, .int], returnType := some (.array .byte) }, accessFlags := 9, code := some k9c2 }
def k9c3 : Code := { maxStack := 3, maxLocals := 7, code := jdk_52_method_21_code, exceptionTable := #[], attributes := #[] }
def k9m3 : Method := { name := "compress", desc := "([CI[BII)I", sig := { parameters := [(.array .char), .int, (.array .byte), .int, .int], returnType := some .int }, accessFlags := 9, code := some k9c3 }
/-- java/lang/StringUTF16 -/
def k9 : Class := { plain "java/lang/StringUTF16" (some 0) with
  accessFlags := 48
  interfaces := #[]
  cf := some (fileOf pool9 12 #[.nestMembers #[627, 629, 369]] #[{ accessFlags := 0, nameIndex := 9, descriptorIndex := 10, attributes := #[] }, { accessFlags := 8, nameIndex := 261, descriptorIndex := 262, attributes := #[] }, { accessFlags := 9, nameIndex := 117, descriptorIndex := 122, attributes := #[] }, { accessFlags := 9, nameIndex := 117, descriptorIndex := 118, attributes := #[] }] 48 6 #[] #[{ accessFlags := 26, nameIndex := 61, descriptorIndex := 62, attributes := #[] }, { accessFlags := 26, nameIndex := 65, descriptorIndex := 62, attributes := #[] }, { accessFlags := 24, nameIndex := 430, descriptorIndex := 62, attributes := #[] }, { accessFlags := 4120, nameIndex := 46, descriptorIndex := 47, attributes := #[] }])
  fields := #[{ name := "HI_BYTE_SHIFT", type := .int, accessFlags := 26, slot := 0, constantValue := 0 }, { name := "LO_BYTE_SHIFT", type := .int, accessFlags := 26, slot := 1, constantValue := 0 }, { name := "MAX_LENGTH", type := .int, accessFlags := 24, slot := 2, constantValue := 0 }, { name := "$assertionsDisabled", type := .boolean, accessFlags := 4120, slot := 3, constantValue := 0 }]
  methods := #[k9m0, k9m1, k9m2, k9m3]
  instanceTypes := #[]
  staticTypes := #[.int, .int, .int, .boolean]
  resolved := Array.replicate 635 none
  statics := none }

def pool10 : Array CpInfo := pool [(1, .class_ 2), (0, u "java/lang/String"), (1, .class_ 6), (1, u "java/lang/Object"), (0, u "<init>"), (0, u "()V"), (0, .methodref 1 10), (0, .nameAndType 11 12), (0, u "checkIndex"), (0, u "(II)V"), (1, .class_ 16), (1, u "java/lang/StringLatin1"), (21, .methodref 39 40), (0, .class_ 41), (0, .nameAndType 42 43), (0, u "java/lang/Math"), (0, u "min"), (0, u "(II)I"), (9, u "([BI)C"), (34, .methodref 14 89), (0, .nameAndType 90 91), (0, u "canEncode"), (0, u "(I)Z"), (0, .methodref 39 93), (0, .nameAndType 94 43), (0, u "max"), (0, .methodref 14 96), (0, .nameAndType 97 98), (0, u "indexOfChar"), (0, u "([BIII)I"), (2, u "indexOf"), (19, u "$assertionsDisabled"), (0, u "Z"), (98, .class_ 223), (1, u "java/lang/StringLatin1$LinesSpliterator"), (28, u "charAt"), (137, .class_ 391), (0, u "java/lang/StringLatin1$CharsSpliterator")] 3

def k10m0 : Method := { name := "<init>", desc := "()V", sig := { parameters := [], returnType := none }, accessFlags := 0, code := none }
def k10c1 : Code := { maxStack := 2, maxLocals := 2, code := jdk_43_method_2_code, exceptionTable := #[], attributes := #[] }
def k10m1 : Method := { name := "charAt", desc := "([BI)C", sig := { parameters := [(.array .byte), .int], returnType := some .char }, accessFlags := 9, code := some k10c1 }
def k10c2 : Code := { maxStack := 2, maxLocals := 1, code := jdk_43_method_4_code, exceptionTable := #[], attributes := #[] }
def k10m2 : Method := { name := "canEncode", desc := "(I)Z", sig := { parameters := [.int], returnType := some .boolean }, accessFlags := 9, code := some k10c2 }
def k10c3 : Code := { maxStack := 4, maxLocals := 4, code := jdk_43_method_22_code, exceptionTable := #[], attributes := #[] }
def k10m3 : Method := { name := "indexOf", desc := "([BIII)I", sig := { parameters := [(.array .byte), .int, .int, .int], returnType := some .int }, accessFlags := 9, code := some k10c3 }
def k10c4 : Code := { maxStack := 2, maxLocals := 6, code := jdk_43_method_23_code, exceptionTable := #[], attributes := #[] }
def k10m4 : Method := { name := "indexOfChar", desc := "([BIII)I", sig := { parameters := [(.array .byte), .int, .int, .int], returnType := some .int }, accessFlags := 10, code := some k10c4 }
/-- java/lang/StringLatin1 -/
def k10 : Class := { plain "java/lang/StringLatin1" (some 0) with
  accessFlags := 48
  interfaces := #[]
  cf := some (fileOf pool10 14 #[.nestMembers #[390, 221]] #[{ accessFlags := 0, nameIndex := 7, descriptorIndex := 8, attributes := #[] }, { accessFlags := 9, nameIndex := 252, descriptorIndex := 53, attributes := #[] }, { accessFlags := 9, nameIndex := 90, descriptorIndex := 91, attributes := #[] }, { accessFlags := 9, nameIndex := 101, descriptorIndex := 98, attributes := #[] }, { accessFlags := 10, nameIndex := 97, descriptorIndex := 98, attributes := #[] }] 48 4 #[] #[{ accessFlags := 4120, nameIndex := 121, descriptorIndex := 122, attributes := #[] }])
  fields := #[{ name := "$assertionsDisabled", type := .boolean, accessFlags := 4120, slot := 0, constantValue := 0 }]
  methods := #[k10m0, k10m1, k10m2, k10m3, k10m4]
  instanceTypes := #[]
  staticTypes := #[.boolean]
  resolved := Array.replicate 395 none
  statics := none }

def pool11 : Array CpInfo := pool [(2, .class_ 4), (1, u "java/lang/Object"), (0, u "<init>"), (0, u "()V"), (17, .class_ 26), (1, u "jdk/internal/util/Preconditions"), (6, u "checkIndex"), (21, .class_ 56), (0, u "jdk/internal/util/Preconditions$4"), (57, .class_ 115), (0, u "jdk/internal/util/Preconditions$1"), (7, u "SIOOBE_FORMATTER"), (0, u "Ljava/util/function/BiFunction;"), (0, .class_ 126), (0, u "jdk/internal/util/Preconditions$2"), (3, u "AIOOBE_FORMATTER"), (0, .class_ 132), (0, u "jdk/internal/util/Preconditions$3"), (3, u "IOOBE_FORMATTER"), (41, u "(IILjava/util/function/BiFunction;)I")] 15

def k11m0 : Method := { name := "<init>", desc := "()V", sig := { parameters := [], returnType := none }, accessFlags := 1, code := none }
def k11c1 : Code := { maxStack := 3, maxLocals := 3, code := jdk_41_method_11_code, exceptionTable := #[], attributes := #[] }
def k11m1 : Method := { name := "checkIndex", desc := "(IILjava/util/function/BiFunction;)I", sig := { parameters := [.int, .int, (.object "java/util/function/BiFunction")], returnType := some .int }, accessFlags := 9, code := some k11c1 }
/-- jdk/internal/util/Preconditions -/
def k11 : Class := { plain "jdk/internal/util/Preconditions" (some 0) with
  accessFlags := 33
  interfaces := #[]
  cf := some (fileOf pool11 24 #[.nestMembers #[55, 131, 125, 114]] #[{ accessFlags := 1, nameIndex := 5, descriptorIndex := 6, attributes := #[] }, { accessFlags := 9, nameIndex := 33, descriptorIndex := 178, attributes := #[] }] 33 2 #[] #[{ accessFlags := 25, nameIndex := 123, descriptorIndex := 124, attributes := #[] }, { accessFlags := 25, nameIndex := 130, descriptorIndex := 124, attributes := #[] }, { accessFlags := 25, nameIndex := 136, descriptorIndex := 124, attributes := #[] }])
  fields := #[{ name := "SIOOBE_FORMATTER", type := (.object "java/util/function/BiFunction"), accessFlags := 25, slot := 0, constantValue := 0 }, { name := "AIOOBE_FORMATTER", type := (.object "java/util/function/BiFunction"), accessFlags := 25, slot := 1, constantValue := 0 }, { name := "IOOBE_FORMATTER", type := (.object "java/util/function/BiFunction"), accessFlags := 25, slot := 2, constantValue := 0 }]
  methods := #[k11m0, k11m1]
  instanceTypes := #[]
  staticTypes := #[(.object "java/util/function/BiFunction"), (.object "java/util/function/BiFunction"), (.object "java/util/function/BiFunction")]
  resolved := Array.replicate 194 none
  statics := some 1 }

def pool12 : Array CpInfo := pool [(1, .class_ 2), (0, u "java/lang/Math"), (1, .class_ 6), (1, u "java/lang/Object"), (0, u "<init>"), (0, u "()V"), (89, .class_ 100), (1, u "java/lang/Math$RandomNumberGeneratorHolder"), (71, u "negativeZeroFloatBits"), (0, u "J"), (2, u "negativeZeroDoubleBits"), (21, u "max"), (2, u "min"), (43, u "$assertionsDisabled"), (0, u "Z"), (88, u "(II)I"), (2, u "twoToTheDoubleScaleDown"), (0, u "D"), (4, u "twoToTheDoubleScaleUp"), (9, u "E"), (3, u "PI"), (2, u "TAU"), (2, u "DEGREES_TO_RADIANS"), (0, u "RADIANS_TO_DEGREES")] 94

def k12m0 : Method := { name := "<init>", desc := "()V", sig := { parameters := [], returnType := none }, accessFlags := 2, code := none }
def k12c1 : Code := { maxStack := 2, maxLocals := 2, code := jdk_29_method_65_code, exceptionTable := #[], attributes := #[] }
def k12m1 : Method := { name := "max", desc := "(II)I", sig := { parameters := [.int, .int], returnType := some .int }, accessFlags := 9, code := some k12c1 }
def k12c2 : Code := { maxStack := 2, maxLocals := 2, code := jdk_29_method_69_code, exceptionTable := #[], attributes := #[] }
def k12m2 : Method := { name := "min", desc := "(II)I", sig := { parameters := [.int, .int], returnType := some .int }, accessFlags := 9, code := some k12c2 }
/-- java/lang/Math -/
def k12 : Class := { plain "java/lang/Math" (some 0) with
  accessFlags := 49
  interfaces := #[]
  cf := some (fileOf pool12 1 #[.nestMembers #[98]] #[{ accessFlags := 2, nameIndex := 7, descriptorIndex := 8, attributes := #[] }, { accessFlags := 9, nameIndex := 198, descriptorIndex := 335, attributes := #[] }, { accessFlags := 9, nameIndex := 201, descriptorIndex := 335, attributes := #[] }] 49 4 #[] #[{ accessFlags := 25, nameIndex := 354, descriptorIndex := 339, attributes := #[] }, { accessFlags := 25, nameIndex := 358, descriptorIndex := 339, attributes := #[] }, { accessFlags := 25, nameIndex := 361, descriptorIndex := 339, attributes := #[] }, { accessFlags := 26, nameIndex := 364, descriptorIndex := 339, attributes := #[] }, { accessFlags := 26, nameIndex := 365, descriptorIndex := 339, attributes := #[] }, { accessFlags := 26, nameIndex := 172, descriptorIndex := 173, attributes := #[] }, { accessFlags := 26, nameIndex := 176, descriptorIndex := 173, attributes := #[] }, { accessFlags := 8, nameIndex := 344, descriptorIndex := 339, attributes := #[] }, { accessFlags := 8, nameIndex := 338, descriptorIndex := 339, attributes := #[] }, { accessFlags := 4120, nameIndex := 245, descriptorIndex := 246, attributes := #[] }])
  fields := #[{ name := "E", type := .double, accessFlags := 25, slot := 0, constantValue := 0 }, { name := "PI", type := .double, accessFlags := 25, slot := 1, constantValue := 0 }, { name := "TAU", type := .double, accessFlags := 25, slot := 2, constantValue := 0 }, { name := "DEGREES_TO_RADIANS", type := .double, accessFlags := 26, slot := 3, constantValue := 0 }, { name := "RADIANS_TO_DEGREES", type := .double, accessFlags := 26, slot := 4, constantValue := 0 }, { name := "negativeZeroFloatBits", type := .long, accessFlags := 26, slot := 5, constantValue := 0 }, { name := "negativeZeroDoubleBits", type := .long, accessFlags := 26, slot := 6, constantValue := 0 }, { name := "twoToTheDoubleScaleUp", type := .double, accessFlags := 8, slot := 7, constantValue := 0 }, { name := "twoToTheDoubleScaleDown", type := .double, accessFlags := 8, slot := 8, constantValue := 0 }, { name := "$assertionsDisabled", type := .boolean, accessFlags := 4120, slot := 9, constantValue := 0 }]
  methods := #[k12m0, k12m1, k12m2]
  instanceTypes := #[]
  staticTypes := #[.double, .double, .double, .double, .double, .long, .long, .double, .double, .boolean]
  resolved := Array.replicate 460 none
  statics := none }

def pool13 : Array CpInfo := pool [(9, u "<init>"), (6, .class_ 18), (1, u "java/lang/Object"), (0, u "()V"), (1, .class_ 23), (1, u "jdk/internal/util/ArraysSupport"), (0, u "LOG2_ARRAY_LONG_INDEX_SCALE"), (0, u "I"), (2, u "U"), (0, u "Ljdk/internal/misc/Unsafe;"), (8, u "BIG_ENDIAN"), (0, u "Z"), (8, u "LOG2_BYTE_BIT_SIZE"), (4, u "LOG2_ARRAY_INT_INDEX_SCALE"), (54, u "JLA"), (0, u "Ljdk/internal/access/JavaLangAccess;"), (11, u "LOG2_ARRAY_BOOLEAN_INDEX_SCALE"), (9, u "LOG2_ARRAY_BYTE_INDEX_SCALE"), (5, u "LOG2_ARRAY_CHAR_INDEX_SCALE"), (5, u "LOG2_ARRAY_SHORT_INDEX_SCALE"), (18, u "LOG2_ARRAY_FLOAT_INDEX_SCALE"), (24, u "LOG2_ARRAY_DOUBLE_INDEX_SCALE"), (89, u "T_BOOLEAN"), (2, u "T_CHAR"), (1, u "T_FLOAT"), (1, u "T_DOUBLE"), (1, u "T_BYTE"), (1, u "T_SHORT"), (1, u "T_INT"), (1, u "T_LONG"), (1, u "SOFT_MAX_ARRAY_LENGTH")] 83

def k13m0 : Method := { name := "<init>", desc := "()V", sig := { parameters := [], returnType := none }, accessFlags := 2, code := none }
/-- jdk/internal/util/ArraysSupport -/
def k13 : Class := { plain "jdk/internal/util/ArraysSupport" (some 0) with
  accessFlags := 33
  interfaces := #[]
  cf := some (fileOf pool13 21 #[] #[{ accessFlags := 2, nameIndex := 9, descriptorIndex := 19, attributes := #[] }] 33 16 #[] #[{ accessFlags := 24, nameIndex := 28, descriptorIndex := 29, attributes := #[] }, { accessFlags := 26, nameIndex := 38, descriptorIndex := 39, attributes := #[] }, { accessFlags := 25, nameIndex := 121, descriptorIndex := 25, attributes := #[] }, { accessFlags := 25, nameIndex := 131, descriptorIndex := 25, attributes := #[] }, { accessFlags := 25, nameIndex := 137, descriptorIndex := 25, attributes := #[] }, { accessFlags := 25, nameIndex := 143, descriptorIndex := 25, attributes := #[] }, { accessFlags := 25, nameIndex := 53, descriptorIndex := 25, attributes := #[] }, { accessFlags := 25, nameIndex := 24, descriptorIndex := 25, attributes := #[] }, { accessFlags := 25, nameIndex := 162, descriptorIndex := 25, attributes := #[] }, { accessFlags := 25, nameIndex := 187, descriptorIndex := 25, attributes := #[] }, { accessFlags := 26, nameIndex := 48, descriptorIndex := 25, attributes := #[] }, { accessFlags := 25, nameIndex := 277, descriptorIndex := 25, attributes := #[] }, { accessFlags := 25, nameIndex := 280, descriptorIndex := 25, attributes := #[] }, { accessFlags := 25, nameIndex := 282, descriptorIndex := 25, attributes := #[] }, { accessFlags := 25, nameIndex := 284, descriptorIndex := 25, attributes := #[] }, { accessFlags := 25, nameIndex := 286, descriptorIndex := 25, attributes := #[] }, { accessFlags := 25, nameIndex := 288, descriptorIndex := 25, attributes := #[] }, { accessFlags := 25, nameIndex := 290, descriptorIndex := 25, attributes := #[] }, { accessFlags := 25, nameIndex := 292, descriptorIndex := 25, attributes := #[] }, { accessFlags := 26, nameIndex := 108, descriptorIndex := 109, attributes := #[] }, { accessFlags := 25, nameIndex := 294, descriptorIndex := 25, attributes := #[] }])
  fields := #[{ name := "U", type := (.object "jdk/internal/misc/Unsafe"), accessFlags := 24, slot := 0, constantValue := 0 }, { name := "BIG_ENDIAN", type := .boolean, accessFlags := 26, slot := 1, constantValue := 0 }, { name := "LOG2_ARRAY_BOOLEAN_INDEX_SCALE", type := .int, accessFlags := 25, slot := 2, constantValue := 0 }, { name := "LOG2_ARRAY_BYTE_INDEX_SCALE", type := .int, accessFlags := 25, slot := 3, constantValue := 0 }, { name := "LOG2_ARRAY_CHAR_INDEX_SCALE", type := .int, accessFlags := 25, slot := 4, constantValue := 0 }, { name := "LOG2_ARRAY_SHORT_INDEX_SCALE", type := .int, accessFlags := 25, slot := 5, constantValue := 0 }, { name := "LOG2_ARRAY_INT_INDEX_SCALE", type := .int, accessFlags := 25, slot := 6, constantValue := 0 }, { name := "LOG2_ARRAY_LONG_INDEX_SCALE", type := .int, accessFlags := 25, slot := 7, constantValue := 0 }, { name := "LOG2_ARRAY_FLOAT_INDEX_SCALE", type := .int, accessFlags := 25, slot := 8, constantValue := 0 }, { name := "LOG2_ARRAY_DOUBLE_INDEX_SCALE", type := .int, accessFlags := 25, slot := 9, constantValue := 0 }, { name := "LOG2_BYTE_BIT_SIZE", type := .int, accessFlags := 26, slot := 10, constantValue := 0 }, { name := "T_BOOLEAN", type := .int, accessFlags := 25, slot := 11, constantValue := 0 }, { name := "T_CHAR", type := .int, accessFlags := 25, slot := 12, constantValue := 0 }, { name := "T_FLOAT", type := .int, accessFlags := 25, slot := 13, constantValue := 0 }, { name := "T_DOUBLE", type := .int, accessFlags := 25, slot := 14, constantValue := 0 }, { name := "T_BYTE", type := .int, accessFlags := 25, slot := 15, constantValue := 0 }, { name := "T_SHORT", type := .int, accessFlags := 25, slot := 16, constantValue := 0 }, { name := "T_INT", type := .int, accessFlags := 25, slot := 17, constantValue := 0 }, { name := "T_LONG", type := .int, accessFlags := 25, slot := 18, constantValue := 0 }, { name := "JLA", type := (.object "jdk/internal/access/JavaLangAccess"), accessFlags := 26, slot := 19, constantValue := 0 }, { name := "SOFT_MAX_ARRAY_LENGTH", type := .int, accessFlags := 25, slot := 20, constantValue := 0 }]
  methods := #[k13m0]
  instanceTypes := #[]
  staticTypes := #[(.object "jdk/internal/misc/Unsafe"), .boolean, .int, .int, .int, .int, .int, .int, .int, .int, .int, .int, .int, .int, .int, .int, .int, .int, .int, (.object "jdk/internal/access/JavaLangAccess"), .int]
  resolved := Array.replicate 378 none
  statics := none }

def pool14 : Array CpInfo := pool [(1, u "java/lang/Cloneable"), (0, .class_ 1), (0, u "java/lang/Object"), (0, .class_ 3)] 3

/-- java/lang/Cloneable -/
def k14 : Class := { plain "java/lang/Cloneable" (some 0) with
  accessFlags := 1537
  interfaces := #[]
  cf := some (fileOf pool14 2 #[] #[] 1537 4 #[] #[])
  fields := #[]
  methods := #[]
  instanceTypes := #[]
  staticTypes := #[]
  resolved := Array.replicate 8 none
  statics := none }

/-- the primitive byte -/
def k15 : Class := { plain "byte" none with kind := .primitive 'B', accessFlags := 0x411 }
/-- [B -/
def k16 : Class := { plain "[B" (some 0) with kind := .array 15 .byte, interfaces := #[14, 2], accessFlags := 1041 }

/-- the primitive char -/
def k17 : Class := { plain "char" none with kind := .primitive 'C', accessFlags := 0x411 }
/-- [C -/
def k18 : Class := { plain "[C" (some 0) with kind := .array 17 .char, interfaces := #[14, 2], accessFlags := 1041 }

/-- the primitive int -/
def k19 : Class := { plain "int" none with kind := .primitive 'I', accessFlags := 0x411 }
/-- [I -/
def k20 : Class := { plain "[I" (some 0) with kind := .array 19 .int, interfaces := #[14, 2], accessFlags := 1041 }

def heap : Heap := #[{ cls := 7, slots := #[.long 0, .int 1, .null, .int 0, .null, .int 0, .int 0], vm := .statics 7 },
  { cls := 11, slots := #[.null, .null, .null], vm := .statics 11 }]
def classes : Array Class := #[k0, k1, k2, k3, k4, k5, k6, k7, k8, k9, k10, k11, k12, k13, k14, k15, k16, k17, k18, k19, k20]
def interned : List (Array UInt16 × Addr) := []
def slotsUsed : Nat := 10
def theMethod : MethodId := ⟨1, 1⟩
def args0 : Array Value := #[.int 5, .long 9, .long 3, .int 4]
def aboutOver (below : List Frame) : State where
  vm := { classes := classes, interned := interned.toArray }
  heap := heap
  slotsUsed := slotsUsed
  threads := #[{ frames := .invoking theMethod args0 :: below }]
def below0 : List Frame := [.native { method := ⟨0, 0⟩, args := #[] }]
def about1 : State := aboutOver below0
def p0 : Program := .bare "" "" ""
def e0 : Env := launch0.env 0 0 0
theorem w_frames : about1.frames = Frame.invoking theMethod args0 :: below0 := rfl
set_option maxRecDepth 65536 in
theorem w_args : argsFit about1.vm theMethod args0 = true := by decide +kernel
set_option maxRecDepth 65536 in
theorem w_heap : heapFits about1 = true := by decide +kernel
set_option maxRecDepth 65536 in
theorem w_runnable : about1.curStatus? = some .runnable := by decide +kernel
set_option maxRecDepth 65536 in
theorem w_alone : about1.alone = true := by decide +kernel
set_option maxRecDepth 65536 in
theorem w_named : about1.methodNamed? x = some theMethod := by decide +kernel
set_option maxRecDepth 65536 in
theorem w_hears : about1.hears theMethod below0 = true := by decide +kernel
set_option maxRecDepth 65536 in
theorem w_ripe : about1.ripe theMethod args0 below0 = true := by decide +kernel
theorem w_running : about1.status = .running := rfl
set_option maxRecDepth 65536 in
theorem w_room : about1.hasRoom e0.platform room_1 = true :=
  launch0.hasRoom_least _ room_1 (by decide +kernel) (by decide +kernel) (by decide +kernel) (by decide +kernel) (by decide +kernel) (by decide +kernel)
theorem allAtoms_all (ts : List Jvm.Cond) (a : Array Jvm.Value) (st : Jvm.State) : (allAtoms ts).before a st = ts.all (fun c => c.before a st) := by
  induction ts with
  | nil => rfl
  | cons c t ih =>
    show (Jvm.Cond.and c (allAtoms t)).before a st = _
    rw [Jvm.Cond.before_and, ih, List.all_cons]
def words1 : List Jvm.Cond := Jvm.Cond.code x code maxLocals ret :: tables_1
/-- a 'code' word, met by the world's own term for the bytes: nothing is compared byte by byte -/
theorem code_word {y : MethodName} {bytes : ByteArray} {mx : Nat} {rt : Option FieldType} {a : Array Value} {s : State} {m : MethodId} {meth : Method} {c : Code} (h1 : s.methodNamed? y = some m) (h2 : s.vm.method? m = some meth) (h3 : meth.code = some c) (h4 : c.code = bytes)
    (h5 : (c.maxLocals == mx && c.exceptionTable.isEmpty && decide (c.maxStack ≤ mostOperands) && decide (meth.sig.returnType = rt) && !meth.locks && decide (parseMethodDescriptor y.desc = some meth.sig)) = true) : (Jvm.Cond.code y bytes mx rt).before a s = true := by
  simp only [Bool.and_eq_true, beq_iff_eq, Bool.not_eq_true', decide_eq_true_eq] at h5
  obtain ⟨⟨⟨⟨⟨g1, g2⟩, g3⟩, g4⟩, g5⟩, g6⟩ := h5
  simp [Cond.before, Cond.holds, Cond.value, h1, h2, h3, h4, g1, g2, g3, g4, g5, g6]
def isCode : Jvm.Cond → Bool
  | .code _ _ _ _ => true
  | _ => false
theorem all_split {L : List Jvm.Cond} {P : Jvm.Cond → Bool} (h1 : L.all (fun c => isCode c || P c) = true) (h2 : ∀ c ∈ L.filter isCode, P c = true) : L.all P = true := by
  refine List.all_eq_true.mpr fun c hc => ?_
  have h := List.all_eq_true.mp h1 c hc
  rcases Bool.eq_false_or_eq_true (isCode c) with hi | hi
  · exact h2 c (List.mem_filter.mpr ⟨hc, hi⟩)
  · simpa [hi] using h
set_option maxRecDepth 65536 in
theorem w_c0 : (Jvm.Cond.code x code maxLocals ret).before args0 about1 = true := code_word (m := ⟨1, 1⟩) (meth := k1m1) (c := k1c1) (by decide +kernel) rfl rfl rfl (by decide +kernel)
set_option maxRecDepth 65536 in
theorem w_c1 : (Jvm.Cond.code ({ cls := "com/example/pliktflow/pliktflow/deposit/MediaTypeIsWellFormedPinLaw", name := "draw", desc := "(JI)C" } : Jvm.MethodName) method_4_code (5 : Nat) (Option.some Jvm.ClassFile.FieldType.char)).before args0 about1 = true := code_word (m := ⟨1, 3⟩) (meth := k1m3) (c := k1c3) (by decide +kernel) rfl rfl rfl (by decide +kernel)
set_option maxRecDepth 65536 in
theorem w_c2 : (Jvm.Cond.code ({ cls := "com/example/pliktflow/pliktflow/deposit/MediaTypeIsWellFormedPinLaw", name := "table", desc := "(I)C" } : Jvm.MethodName) method_3_code (2 : Nat) (Option.some Jvm.ClassFile.FieldType.char)).before args0 about1 = true := code_word (m := ⟨1, 2⟩) (meth := k1m2) (c := k1c2) (by decide +kernel) rfl rfl rfl (by decide +kernel)
set_option maxRecDepth 65536 in
theorem w_c3 : (Jvm.Cond.code ({ cls := "com/example/pliktflow/pliktflow/deposit/MediaTypeIsWellFormedPinLaw", name := "make", desc := "([CI)Ljava/lang/String;" } : Jvm.MethodName) method_5_code (2 : Nat) (Option.some (Jvm.ClassFile.FieldType.object "java/lang/String"))).before args0 about1 = true := code_word (m := ⟨1, 4⟩) (meth := k1m4) (c := k1c4) (by decide +kernel) rfl rfl rfl (by decide +kernel)
set_option maxRecDepth 65536 in
theorem w_c4 : (Jvm.Cond.code ({ cls := "java/lang/String", name := "<init>", desc := "([C)V" } : Jvm.MethodName) jdk_42_method_3_code (2 : Nat) (Option.none : Option Jvm.ClassFile.FieldType)).before args0 about1 = true := code_word (m := ⟨7, 1⟩) (meth := k7m1) (c := k7c1) (by decide +kernel) rfl rfl rfl (by decide +kernel)
set_option maxRecDepth 65536 in
theorem w_c5 : (Jvm.Cond.code ({ cls := "java/lang/String", name := "<init>", desc := "([CIILjava/lang/Void;)V" } : Jvm.MethodName) jdk_42_method_149_code (6 : Nat) (Option.none : Option Jvm.ClassFile.FieldType)).before args0 about1 = true := code_word (m := ⟨7, 6⟩) (meth := k7m6) (c := k7c6) (by decide +kernel) rfl rfl rfl (by decide +kernel)
set_option maxRecDepth 65536 in
theorem w_c6 : (Jvm.Cond.code ({ cls := "java/lang/Object", name := "<init>", desc := "()V" } : Jvm.MethodName) object_method_1_code (1 : Nat) (Option.none : Option Jvm.ClassFile.FieldType)).before args0 about1 = true := code_word (m := ⟨0, 0⟩) (meth := k0m0) (c := k0c0) (by decide +kernel) rfl rfl rfl (by decide +kernel)
set_option maxRecDepth 65536 in
theorem w_c7 : (Jvm.Cond.code ({ cls := "com/example/pliktflow/pliktflow/deposit/MediaTypeIsWellFormedPinLaw", name := "run", desc := "([CI)I" } : Jvm.MethodName) method_6_code (3 : Nat) (Option.some Jvm.ClassFile.FieldType.int)).before args0 about1 = true := code_word (m := ⟨1, 5⟩) (meth := k1m5) (c := k1c5) (by decide +kernel) rfl rfl rfl (by decide +kernel)
set_option maxRecDepth 65536 in
theorem w_c8 : (Jvm.Cond.code ({ cls := "com/example/pliktflow/pliktflow/deposit/MediaTypeIsWellFormedPinLaw", name := "accepts", desc := "(I)Z" } : Jvm.MethodName) method_7_code (1 : Nat) (Option.some Jvm.ClassFile.FieldType.boolean)).before args0 about1 = true := code_word (m := ⟨1, 6⟩) (meth := k1m6) (c := k1c6) (by decide +kernel) rfl rfl rfl (by decide +kernel)
set_option maxRecDepth 65536 in
theorem w_c9 : (Jvm.Cond.code ({ cls := "com/example/pliktflow/pliktflow/deposit/MediaType", name := "isWellFormed", desc := "(Ljava/lang/String;)Z" } : Jvm.MethodName) prog_22_method_2_code (3 : Nat) (Option.some Jvm.ClassFile.FieldType.boolean)).before args0 about1 = true := code_word (m := ⟨8, 1⟩) (meth := k8m1) (c := k8c1) (by decide +kernel) rfl rfl rfl (by decide +kernel)
set_option maxRecDepth 65536 in
theorem w_c10 : (Jvm.Cond.code ({ cls := "com/example/pliktflow/pliktflow/deposit/MediaType", name := "nameEnd", desc := "(Ljava/lang/String;I)I" } : Jvm.MethodName) prog_22_method_3_code (3 : Nat) (Option.some Jvm.ClassFile.FieldType.int)).before args0 about1 = true := code_word (m := ⟨8, 2⟩) (meth := k8m2) (c := k8c2) (by decide +kernel) rfl rfl rfl (by decide +kernel)
set_option maxRecDepth 65536 in
theorem w_c11 : (Jvm.Cond.code ({ cls := "java/lang/String", name := "length", desc := "()I" } : Jvm.MethodName) jdk_42_method_54_code (1 : Nat) (Option.some Jvm.ClassFile.FieldType.int)).before args0 about1 = true := code_word (m := ⟨7, 2⟩) (meth := k7m2) (c := k7c2) (by decide +kernel) rfl rfl rfl (by decide +kernel)
set_option maxRecDepth 65536 in
theorem w_c12 : (Jvm.Cond.code ({ cls := "java/lang/String", name := "coder", desc := "()B" } : Jvm.MethodName) jdk_42_method_152_code (1 : Nat) (Option.some Jvm.ClassFile.FieldType.byte)).before args0 about1 = true := code_word (m := ⟨7, 7⟩) (meth := k7m7) (c := k7c7) (by decide +kernel) rfl rfl rfl (by decide +kernel)
set_option maxRecDepth 65536 in
theorem w_c13 : (Jvm.Cond.code ({ cls := "java/lang/StringUTF16", name := "compress", desc := "([CII)[B" } : Jvm.MethodName) jdk_52_method_16_code (6 : Nat) (Option.some (Jvm.ClassFile.FieldType.array Jvm.ClassFile.FieldType.byte))).before args0 about1 = true := code_word (m := ⟨9, 2⟩) (meth := k9m2) (c := k9c2) (by decide +kernel) rfl rfl rfl (by decide +kernel)
set_option maxRecDepth 65536 in
theorem w_c14 : (Jvm.Cond.code ({ cls := "java/lang/StringUTF16", name := "compress", desc := "([CI[BII)I" } : Jvm.MethodName) jdk_52_method_21_code (7 : Nat) (Option.some Jvm.ClassFile.FieldType.int)).before args0 about1 = true := code_word (m := ⟨9, 3⟩) (meth := k9m3) (c := k9c3) (by decide +kernel) rfl rfl rfl (by decide +kernel)
set_option maxRecDepth 65536 in
theorem w_c15 : (Jvm.Cond.code ({ cls := "java/lang/StringUTF16", name := "coderFromArrayLen", desc := "([BI)B" } : Jvm.MethodName) jdk_52_method_15_code (2 : Nat) (Option.some Jvm.ClassFile.FieldType.byte)).before args0 about1 = true := code_word (m := ⟨9, 1⟩) (meth := k9m1) (c := k9c1) (by decide +kernel) rfl rfl rfl (by decide +kernel)
set_option maxRecDepth 65536 in
theorem w_c16 : (Jvm.Cond.code ({ cls := "com/example/pliktflow/pliktflow/deposit/MediaTypeIsWellFormedPinLaw", name := "step", desc := "(IC)I" } : Jvm.MethodName) method_8_code (2 : Nat) (Option.some Jvm.ClassFile.FieldType.int)).before args0 about1 = true := code_word (m := ⟨1, 7⟩) (meth := k1m7) (c := k1c7) (by decide +kernel) rfl rfl rfl (by decide +kernel)
set_option maxRecDepth 65536 in
theorem w_c17 : (Jvm.Cond.code ({ cls := "com/example/pliktflow/pliktflow/deposit/MediaTypeIsWellFormedPinLaw", name := "isLd", desc := "(C)Z" } : Jvm.MethodName) method_9_code (1 : Nat) (Option.some Jvm.ClassFile.FieldType.boolean)).before args0 about1 = true := code_word (m := ⟨1, 8⟩) (meth := k1m8) (c := k1c8) (by decide +kernel) rfl rfl rfl (by decide +kernel)
set_option maxRecDepth 65536 in
theorem w_c18 : (Jvm.Cond.code ({ cls := "java/lang/String", name := "charAt", desc := "(I)C" } : Jvm.MethodName) jdk_42_method_56_code (2 : Nat) (Option.some Jvm.ClassFile.FieldType.char)).before args0 about1 = true := code_word (m := ⟨7, 3⟩) (meth := k7m3) (c := k7c3) (by decide +kernel) rfl rfl rfl (by decide +kernel)
set_option maxRecDepth 65536 in
theorem w_c19 : (Jvm.Cond.code ({ cls := "java/lang/String", name := "isLatin1", desc := "()Z" } : Jvm.MethodName) jdk_42_method_154_code (1 : Nat) (Option.some Jvm.ClassFile.FieldType.boolean)).before args0 about1 = true := code_word (m := ⟨7, 8⟩) (meth := k7m8) (c := k7c8) (by decide +kernel) rfl rfl rfl (by decide +kernel)
set_option maxRecDepth 65536 in
theorem w_c20 : (Jvm.Cond.code ({ cls := "java/lang/StringLatin1", name := "charAt", desc := "([BI)C" } : Jvm.MethodName) jdk_43_method_2_code (2 : Nat) (Option.some Jvm.ClassFile.FieldType.char)).before args0 about1 = true := code_word (m := ⟨10, 1⟩) (meth := k10m1) (c := k10c1) (by decide +kernel) rfl rfl rfl (by decide +kernel)
set_option maxRecDepth 65536 in
theorem w_c21 : (Jvm.Cond.code ({ cls := "java/lang/String", name := "checkIndex", desc := "(II)V" } : Jvm.MethodName) jdk_42_method_155_code (2 : Nat) (Option.none : Option Jvm.ClassFile.FieldType)).before args0 about1 = true := code_word (m := ⟨7, 9⟩) (meth := k7m9) (c := k7c9) (by decide +kernel) rfl rfl rfl (by decide +kernel)
set_option maxRecDepth 65536 in
theorem w_c22 : (Jvm.Cond.code ({ cls := "jdk/internal/util/Preconditions", name := "checkIndex", desc := "(IILjava/util/function/BiFunction;)I" } : Jvm.MethodName) jdk_41_method_11_code (3 : Nat) (Option.some Jvm.ClassFile.FieldType.int)).before args0 about1 = true := code_word (m := ⟨11, 1⟩) (meth := k11m1) (c := k11c1) (by decide +kernel) rfl rfl rfl (by decide +kernel)
set_option maxRecDepth 65536 in
theorem w_c23 : (Jvm.Cond.code ({ cls := "com/example/pliktflow/pliktflow/deposit/MediaType", name := "isLetterOrDigit", desc := "(C)Z" } : Jvm.MethodName) prog_22_method_10_code (1 : Nat) (Option.some Jvm.ClassFile.FieldType.boolean)).before args0 about1 = true := code_word (m := ⟨8, 9⟩) (meth := k8m9) (c := k8c9) (by decide +kernel) rfl rfl rfl (by decide +kernel)
set_option maxRecDepth 65536 in
theorem w_c24 : (Jvm.Cond.code ({ cls := "com/example/pliktflow/pliktflow/deposit/MediaType", name := "isAt", desc := "(Ljava/lang/String;IC)Z" } : Jvm.MethodName) prog_22_method_8_code (3 : Nat) (Option.some Jvm.ClassFile.FieldType.boolean)).before args0 about1 = true := code_word (m := ⟨8, 7⟩) (meth := k8m7) (c := k8c7) (by decide +kernel) rfl rfl rfl (by decide +kernel)
set_option maxRecDepth 65536 in
theorem w_c25 : (Jvm.Cond.code ({ cls := "com/example/pliktflow/pliktflow/deposit/MediaTypeIsWellFormedPinLaw", name := "isNameChar", desc := "(C)Z" } : Jvm.MethodName) method_11_code (1 : Nat) (Option.some Jvm.ClassFile.FieldType.boolean)).before args0 about1 = true := code_word (m := ⟨1, 10⟩) (meth := k1m10) (c := k1c10) (by decide +kernel) rfl rfl rfl (by decide +kernel)
set_option maxRecDepth 65536 in
theorem w_c26 : (Jvm.Cond.code ({ cls := "com/example/pliktflow/pliktflow/deposit/MediaType", name := "isLetterDigitOr", desc := "(CLjava/lang/String;)Z" } : Jvm.MethodName) prog_22_method_9_code (2 : Nat) (Option.some Jvm.ClassFile.FieldType.boolean)).before args0 about1 = true := code_word (m := ⟨8, 8⟩) (meth := k8m8) (c := k8c8) (by decide +kernel) rfl rfl rfl (by decide +kernel)
set_option maxRecDepth 65536 in
theorem w_c27 : (Jvm.Cond.code ({ cls := "com/example/pliktflow/pliktflow/deposit/MediaTypeIsWellFormedPinLaw", name := "isNameMark", desc := "(C)Z" } : Jvm.MethodName) method_10_code (1 : Nat) (Option.some Jvm.ClassFile.FieldType.boolean)).before args0 about1 = true := code_word (m := ⟨1, 9⟩) (meth := k1m9) (c := k1c9) (by decide +kernel) rfl rfl rfl (by decide +kernel)
set_option maxRecDepth 65536 in
theorem w_c28 : (Jvm.Cond.code ({ cls := "com/example/pliktflow/pliktflow/deposit/MediaTypeIsWellFormedPinLaw", name := "isWs", desc := "(C)Z" } : Jvm.MethodName) method_13_code (1 : Nat) (Option.some Jvm.ClassFile.FieldType.boolean)).before args0 about1 = true := code_word (m := ⟨1, 12⟩) (meth := k1m12) (c := k1c12) (by decide +kernel) rfl rfl rfl (by decide +kernel)
set_option maxRecDepth 65536 in
theorem w_c29 : (Jvm.Cond.code ({ cls := "com/example/pliktflow/pliktflow/deposit/MediaTypeIsWellFormedPinLaw", name := "isTokenChar", desc := "(C)Z" } : Jvm.MethodName) method_12_code (1 : Nat) (Option.some Jvm.ClassFile.FieldType.boolean)).before args0 about1 = true := code_word (m := ⟨1, 11⟩) (meth := k1m11) (c := k1c11) (by decide +kernel) rfl rfl rfl (by decide +kernel)
set_option maxRecDepth 65536 in
theorem w_c30 : (Jvm.Cond.code ({ cls := "java/lang/String", name := "indexOf", desc := "(I)I" } : Jvm.MethodName) jdk_42_method_79_code (2 : Nat) (Option.some Jvm.ClassFile.FieldType.int)).before args0 about1 = true := code_word (m := ⟨7, 4⟩) (meth := k7m4) (c := k7c4) (by decide +kernel) rfl rfl rfl (by decide +kernel)
set_option maxRecDepth 65536 in
theorem w_c31 : (Jvm.Cond.code ({ cls := "java/lang/String", name := "indexOf", desc := "(II)I" } : Jvm.MethodName) jdk_42_method_80_code (3 : Nat) (Option.some Jvm.ClassFile.FieldType.int)).before args0 about1 = true := code_word (m := ⟨7, 5⟩) (meth := k7m5) (c := k7c5) (by decide +kernel) rfl rfl rfl (by decide +kernel)
set_option maxRecDepth 65536 in
theorem w_c32 : (Jvm.Cond.code ({ cls := "java/lang/StringLatin1", name := "indexOf", desc := "([BIII)I" } : Jvm.MethodName) jdk_43_method_22_code (4 : Nat) (Option.some Jvm.ClassFile.FieldType.int)).before args0 about1 = true := code_word (m := ⟨10, 3⟩) (meth := k10m3) (c := k10c3) (by decide +kernel) rfl rfl rfl (by decide +kernel)
set_option maxRecDepth 65536 in
theorem w_c33 : (Jvm.Cond.code ({ cls := "java/lang/StringLatin1", name := "canEncode", desc := "(I)Z" } : Jvm.MethodName) jdk_43_method_4_code (1 : Nat) (Option.some Jvm.ClassFile.FieldType.boolean)).before args0 about1 = true := code_word (m := ⟨10, 2⟩) (meth := k10m2) (c := k10c2) (by decide +kernel) rfl rfl rfl (by decide +kernel)
set_option maxRecDepth 65536 in
theorem w_c34 : (Jvm.Cond.code ({ cls := "java/lang/Math", name := "max", desc := "(II)I" } : Jvm.MethodName) jdk_29_method_65_code (2 : Nat) (Option.some Jvm.ClassFile.FieldType.int)).before args0 about1 = true := code_word (m := ⟨12, 1⟩) (meth := k12m1) (c := k12c1) (by decide +kernel) rfl rfl rfl (by decide +kernel)
set_option maxRecDepth 65536 in
theorem w_c35 : (Jvm.Cond.code ({ cls := "java/lang/Math", name := "min", desc := "(II)I" } : Jvm.MethodName) jdk_29_method_69_code (2 : Nat) (Option.some Jvm.ClassFile.FieldType.int)).before args0 about1 = true := code_word (m := ⟨12, 2⟩) (meth := k12m2) (c := k12c2) (by decide +kernel) rfl rfl rfl (by decide +kernel)
set_option maxRecDepth 65536 in
theorem w_c36 : (Jvm.Cond.code ({ cls := "java/lang/StringLatin1", name := "indexOfChar", desc := "([BIII)I" } : Jvm.MethodName) jdk_43_method_23_code (6 : Nat) (Option.some Jvm.ClassFile.FieldType.int)).before args0 about1 = true := code_word (m := ⟨10, 4⟩) (meth := k10m4) (c := k10c4) (by decide +kernel) rfl rfl rfl (by decide +kernel)
set_option maxRecDepth 65536 in
theorem w_c37 : (Jvm.Cond.code ({ cls := "com/example/pliktflow/pliktflow/deposit/MediaType", name := "whiteSpaceEnd", desc := "(Ljava/lang/String;I)I" } : Jvm.MethodName) prog_22_method_7_code (3 : Nat) (Option.some Jvm.ClassFile.FieldType.int)).before args0 about1 = true := code_word (m := ⟨8, 6⟩) (meth := k8m6) (c := k8c6) (by decide +kernel) rfl rfl rfl (by decide +kernel)
set_option maxRecDepth 65536 in
theorem w_c38 : (Jvm.Cond.code ({ cls := "com/example/pliktflow/pliktflow/deposit/MediaType", name := "isSpaceOrTab", desc := "(C)Z" } : Jvm.MethodName) prog_22_method_12_code (1 : Nat) (Option.some Jvm.ClassFile.FieldType.boolean)).before args0 about1 = true := code_word (m := ⟨8, 11⟩) (meth := k8m11) (c := k8c11) (by decide +kernel) rfl rfl rfl (by decide +kernel)
set_option maxRecDepth 65536 in
theorem w_c39 : (Jvm.Cond.code ({ cls := "com/example/pliktflow/pliktflow/deposit/MediaType", name := "parameterEnd", desc := "(Ljava/lang/String;I)I" } : Jvm.MethodName) prog_22_method_4_code (4 : Nat) (Option.some Jvm.ClassFile.FieldType.int)).before args0 about1 = true := code_word (m := ⟨8, 3⟩) (meth := k8m3) (c := k8c3) (by decide +kernel) rfl rfl rfl (by decide +kernel)
set_option maxRecDepth 65536 in
theorem w_c40 : (Jvm.Cond.code ({ cls := "com/example/pliktflow/pliktflow/deposit/MediaType", name := "tokenEnd", desc := "(Ljava/lang/String;I)I" } : Jvm.MethodName) prog_22_method_5_code (3 : Nat) (Option.some Jvm.ClassFile.FieldType.int)).before args0 about1 = true := code_word (m := ⟨8, 4⟩) (meth := k8m4) (c := k8c4) (by decide +kernel) rfl rfl rfl (by decide +kernel)
set_option maxRecDepth 65536 in
theorem w_c41 : (Jvm.Cond.code ({ cls := "com/example/pliktflow/pliktflow/deposit/MediaTypeIsWellFormedPinLaw", name := "isText", desc := "(C)Z" } : Jvm.MethodName) method_14_code (1 : Nat) (Option.some Jvm.ClassFile.FieldType.boolean)).before args0 about1 = true := code_word (m := ⟨1, 13⟩) (meth := k1m13) (c := k1c13) (by decide +kernel) rfl rfl rfl (by decide +kernel)
set_option maxRecDepth 65536 in
theorem w_c42 : (Jvm.Cond.code ({ cls := "com/example/pliktflow/pliktflow/deposit/MediaType", name := "quotedStringEnd", desc := "(Ljava/lang/String;I)I" } : Jvm.MethodName) prog_22_method_6_code (4 : Nat) (Option.some Jvm.ClassFile.FieldType.int)).before args0 about1 = true := code_word (m := ⟨8, 5⟩) (meth := k8m5) (c := k8c5) (by decide +kernel) rfl rfl rfl (by decide +kernel)
set_option maxRecDepth 65536 in
theorem w_c43 : (Jvm.Cond.code ({ cls := "com/example/pliktflow/pliktflow/deposit/MediaType", name := "isTextCharacter", desc := "(C)Z" } : Jvm.MethodName) prog_22_method_11_code (1 : Nat) (Option.some Jvm.ClassFile.FieldType.boolean)).before args0 about1 = true := code_word (m := ⟨8, 10⟩) (meth := k8m10) (c := k8c10) (by decide +kernel) rfl rfl rfl (by decide +kernel)
def codes1 : List Jvm.Cond := [Jvm.Cond.code x code maxLocals ret, Jvm.Cond.code ({ cls := "com/example/pliktflow/pliktflow/deposit/MediaTypeIsWellFormedPinLaw", name := "draw", desc := "(JI)C" } : Jvm.MethodName) method_4_code (5 : Nat) (Option.some Jvm.ClassFile.FieldType.char), Jvm.Cond.code ({ cls := "com/example/pliktflow/pliktflow/deposit/MediaTypeIsWellFormedPinLaw", name := "table", desc := "(I)C" } : Jvm.MethodName) method_3_code (2 : Nat) (Option.some Jvm.ClassFile.FieldType.char), Jvm.Cond.code ({ cls := "com/example/pliktflow/pliktflow/deposit/MediaTypeIsWellFormedPinLaw", name := "make", desc := "([CI)Ljava/lang/String;" } : Jvm.MethodName) method_5_code (2 : Nat) (Option.some (Jvm.ClassFile.FieldType.object "java/lang/String")), Jvm.Cond.code ({ cls := "java/lang/String", name := "<init>", desc := "([C)V" } : Jvm.MethodName) jdk_42_method_3_code (2 : Nat) (Option.none : Option Jvm.ClassFile.FieldType), Jvm.Cond.code ({ cls := "java/lang/String", name := "<init>", desc := "([CIILjava/lang/Void;)V" } : Jvm.MethodName) jdk_42_method_149_code (6 : Nat) (Option.none : Option Jvm.ClassFile.FieldType), Jvm.Cond.code ({ cls := "java/lang/Object", name := "<init>", desc := "()V" } : Jvm.MethodName) object_method_1_code (1 : Nat) (Option.none : Option Jvm.ClassFile.FieldType), Jvm.Cond.code ({ cls := "com/example/pliktflow/pliktflow/deposit/MediaTypeIsWellFormedPinLaw", name := "run", desc := "([CI)I" } : Jvm.MethodName) method_6_code (3 : Nat) (Option.some Jvm.ClassFile.FieldType.int), Jvm.Cond.code ({ cls := "com/example/pliktflow/pliktflow/deposit/MediaTypeIsWellFormedPinLaw", name := "accepts", desc := "(I)Z" } : Jvm.MethodName) method_7_code (1 : Nat) (Option.some Jvm.ClassFile.FieldType.boolean), Jvm.Cond.code ({ cls := "com/example/pliktflow/pliktflow/deposit/MediaType", name := "isWellFormed", desc := "(Ljava/lang/String;)Z" } : Jvm.MethodName) prog_22_method_2_code (3 : Nat) (Option.some Jvm.ClassFile.FieldType.boolean), Jvm.Cond.code ({ cls := "com/example/pliktflow/pliktflow/deposit/MediaType", name := "nameEnd", desc := "(Ljava/lang/String;I)I" } : Jvm.MethodName) prog_22_method_3_code (3 : Nat) (Option.some Jvm.ClassFile.FieldType.int), Jvm.Cond.code ({ cls := "java/lang/String", name := "length", desc := "()I" } : Jvm.MethodName) jdk_42_method_54_code (1 : Nat) (Option.some Jvm.ClassFile.FieldType.int), Jvm.Cond.code ({ cls := "java/lang/String", name := "coder", desc := "()B" } : Jvm.MethodName) jdk_42_method_152_code (1 : Nat) (Option.some Jvm.ClassFile.FieldType.byte), Jvm.Cond.code ({ cls := "java/lang/StringUTF16", name := "compress", desc := "([CII)[B" } : Jvm.MethodName) jdk_52_method_16_code (6 : Nat) (Option.some (Jvm.ClassFile.FieldType.array Jvm.ClassFile.FieldType.byte)), Jvm.Cond.code ({ cls := "java/lang/StringUTF16", name := "compress", desc := "([CI[BII)I" } : Jvm.MethodName) jdk_52_method_21_code (7 : Nat) (Option.some Jvm.ClassFile.FieldType.int), Jvm.Cond.code ({ cls := "java/lang/StringUTF16", name := "coderFromArrayLen", desc := "([BI)B" } : Jvm.MethodName) jdk_52_method_15_code (2 : Nat) (Option.some Jvm.ClassFile.FieldType.byte), Jvm.Cond.code ({ cls := "com/example/pliktflow/pliktflow/deposit/MediaTypeIsWellFormedPinLaw", name := "step", desc := "(IC)I" } : Jvm.MethodName) method_8_code (2 : Nat) (Option.some Jvm.ClassFile.FieldType.int), Jvm.Cond.code ({ cls := "com/example/pliktflow/pliktflow/deposit/MediaTypeIsWellFormedPinLaw", name := "isLd", desc := "(C)Z" } : Jvm.MethodName) method_9_code (1 : Nat) (Option.some Jvm.ClassFile.FieldType.boolean), Jvm.Cond.code ({ cls := "java/lang/String", name := "charAt", desc := "(I)C" } : Jvm.MethodName) jdk_42_method_56_code (2 : Nat) (Option.some Jvm.ClassFile.FieldType.char), Jvm.Cond.code ({ cls := "java/lang/String", name := "isLatin1", desc := "()Z" } : Jvm.MethodName) jdk_42_method_154_code (1 : Nat) (Option.some Jvm.ClassFile.FieldType.boolean), Jvm.Cond.code ({ cls := "java/lang/StringLatin1", name := "charAt", desc := "([BI)C" } : Jvm.MethodName) jdk_43_method_2_code (2 : Nat) (Option.some Jvm.ClassFile.FieldType.char), Jvm.Cond.code ({ cls := "java/lang/String", name := "checkIndex", desc := "(II)V" } : Jvm.MethodName) jdk_42_method_155_code (2 : Nat) (Option.none : Option Jvm.ClassFile.FieldType), Jvm.Cond.code ({ cls := "jdk/internal/util/Preconditions", name := "checkIndex", desc := "(IILjava/util/function/BiFunction;)I" } : Jvm.MethodName) jdk_41_method_11_code (3 : Nat) (Option.some Jvm.ClassFile.FieldType.int), Jvm.Cond.code ({ cls := "com/example/pliktflow/pliktflow/deposit/MediaType", name := "isLetterOrDigit", desc := "(C)Z" } : Jvm.MethodName) prog_22_method_10_code (1 : Nat) (Option.some Jvm.ClassFile.FieldType.boolean), Jvm.Cond.code ({ cls := "com/example/pliktflow/pliktflow/deposit/MediaType", name := "isAt", desc := "(Ljava/lang/String;IC)Z" } : Jvm.MethodName) prog_22_method_8_code (3 : Nat) (Option.some Jvm.ClassFile.FieldType.boolean), Jvm.Cond.code ({ cls := "com/example/pliktflow/pliktflow/deposit/MediaTypeIsWellFormedPinLaw", name := "isNameChar", desc := "(C)Z" } : Jvm.MethodName) method_11_code (1 : Nat) (Option.some Jvm.ClassFile.FieldType.boolean), Jvm.Cond.code ({ cls := "com/example/pliktflow/pliktflow/deposit/MediaType", name := "isLetterDigitOr", desc := "(CLjava/lang/String;)Z" } : Jvm.MethodName) prog_22_method_9_code (2 : Nat) (Option.some Jvm.ClassFile.FieldType.boolean), Jvm.Cond.code ({ cls := "com/example/pliktflow/pliktflow/deposit/MediaTypeIsWellFormedPinLaw", name := "isNameMark", desc := "(C)Z" } : Jvm.MethodName) method_10_code (1 : Nat) (Option.some Jvm.ClassFile.FieldType.boolean), Jvm.Cond.code ({ cls := "com/example/pliktflow/pliktflow/deposit/MediaTypeIsWellFormedPinLaw", name := "isWs", desc := "(C)Z" } : Jvm.MethodName) method_13_code (1 : Nat) (Option.some Jvm.ClassFile.FieldType.boolean), Jvm.Cond.code ({ cls := "com/example/pliktflow/pliktflow/deposit/MediaTypeIsWellFormedPinLaw", name := "isTokenChar", desc := "(C)Z" } : Jvm.MethodName) method_12_code (1 : Nat) (Option.some Jvm.ClassFile.FieldType.boolean), Jvm.Cond.code ({ cls := "java/lang/String", name := "indexOf", desc := "(I)I" } : Jvm.MethodName) jdk_42_method_79_code (2 : Nat) (Option.some Jvm.ClassFile.FieldType.int), Jvm.Cond.code ({ cls := "java/lang/String", name := "indexOf", desc := "(II)I" } : Jvm.MethodName) jdk_42_method_80_code (3 : Nat) (Option.some Jvm.ClassFile.FieldType.int), Jvm.Cond.code ({ cls := "java/lang/StringLatin1", name := "indexOf", desc := "([BIII)I" } : Jvm.MethodName) jdk_43_method_22_code (4 : Nat) (Option.some Jvm.ClassFile.FieldType.int), Jvm.Cond.code ({ cls := "java/lang/StringLatin1", name := "canEncode", desc := "(I)Z" } : Jvm.MethodName) jdk_43_method_4_code (1 : Nat) (Option.some Jvm.ClassFile.FieldType.boolean), Jvm.Cond.code ({ cls := "java/lang/Math", name := "max", desc := "(II)I" } : Jvm.MethodName) jdk_29_method_65_code (2 : Nat) (Option.some Jvm.ClassFile.FieldType.int), Jvm.Cond.code ({ cls := "java/lang/Math", name := "min", desc := "(II)I" } : Jvm.MethodName) jdk_29_method_69_code (2 : Nat) (Option.some Jvm.ClassFile.FieldType.int), Jvm.Cond.code ({ cls := "java/lang/StringLatin1", name := "indexOfChar", desc := "([BIII)I" } : Jvm.MethodName) jdk_43_method_23_code (6 : Nat) (Option.some Jvm.ClassFile.FieldType.int), Jvm.Cond.code ({ cls := "com/example/pliktflow/pliktflow/deposit/MediaType", name := "whiteSpaceEnd", desc := "(Ljava/lang/String;I)I" } : Jvm.MethodName) prog_22_method_7_code (3 : Nat) (Option.some Jvm.ClassFile.FieldType.int), Jvm.Cond.code ({ cls := "com/example/pliktflow/pliktflow/deposit/MediaType", name := "isSpaceOrTab", desc := "(C)Z" } : Jvm.MethodName) prog_22_method_12_code (1 : Nat) (Option.some Jvm.ClassFile.FieldType.boolean), Jvm.Cond.code ({ cls := "com/example/pliktflow/pliktflow/deposit/MediaType", name := "parameterEnd", desc := "(Ljava/lang/String;I)I" } : Jvm.MethodName) prog_22_method_4_code (4 : Nat) (Option.some Jvm.ClassFile.FieldType.int), Jvm.Cond.code ({ cls := "com/example/pliktflow/pliktflow/deposit/MediaType", name := "tokenEnd", desc := "(Ljava/lang/String;I)I" } : Jvm.MethodName) prog_22_method_5_code (3 : Nat) (Option.some Jvm.ClassFile.FieldType.int), Jvm.Cond.code ({ cls := "com/example/pliktflow/pliktflow/deposit/MediaTypeIsWellFormedPinLaw", name := "isText", desc := "(C)Z" } : Jvm.MethodName) method_14_code (1 : Nat) (Option.some Jvm.ClassFile.FieldType.boolean), Jvm.Cond.code ({ cls := "com/example/pliktflow/pliktflow/deposit/MediaType", name := "quotedStringEnd", desc := "(Ljava/lang/String;I)I" } : Jvm.MethodName) prog_22_method_6_code (4 : Nat) (Option.some Jvm.ClassFile.FieldType.int), Jvm.Cond.code ({ cls := "com/example/pliktflow/pliktflow/deposit/MediaType", name := "isTextCharacter", desc := "(C)Z" } : Jvm.MethodName) prog_22_method_11_code (1 : Nat) (Option.some Jvm.ClassFile.FieldType.boolean)]
set_option maxRecDepth 65536 in
theorem codes_eq : words1.filter isCode = codes1 := rfl
theorem w_codes : ∀ c ∈ words1.filter isCode, c.before args0 about1 = true := by
  rw [codes_eq]
  intro c hc
  simp only [codes1, List.mem_cons, List.not_mem_nil, or_false] at hc
  rcases hc with rfl | rfl | rfl | rfl | rfl | rfl | rfl | rfl | rfl | rfl | rfl | rfl | rfl | rfl | rfl | rfl | rfl | rfl | rfl | rfl | rfl | rfl | rfl | rfl | rfl | rfl | rfl | rfl | rfl | rfl | rfl | rfl | rfl | rfl | rfl | rfl | rfl | rfl | rfl | rfl | rfl | rfl | rfl | rfl
  · exact w_c0
  · exact w_c1
  · exact w_c2
  · exact w_c3
  · exact w_c4
  · exact w_c5
  · exact w_c6
  · exact w_c7
  · exact w_c8
  · exact w_c9
  · exact w_c10
  · exact w_c11
  · exact w_c12
  · exact w_c13
  · exact w_c14
  · exact w_c15
  · exact w_c16
  · exact w_c17
  · exact w_c18
  · exact w_c19
  · exact w_c20
  · exact w_c21
  · exact w_c22
  · exact w_c23
  · exact w_c24
  · exact w_c25
  · exact w_c26
  · exact w_c27
  · exact w_c28
  · exact w_c29
  · exact w_c30
  · exact w_c31
  · exact w_c32
  · exact w_c33
  · exact w_c34
  · exact w_c35
  · exact w_c36
  · exact w_c37
  · exact w_c38
  · exact w_c39
  · exact w_c40
  · exact w_c41
  · exact w_c42
  · exact w_c43
set_option maxRecDepth 65536 in
theorem w_t1 : (words1.take 24).all (fun c => isCode c || c.before args0 about1) = true := by decide +kernel
set_option maxRecDepth 65536 in
theorem w_t2 : ((words1.drop 24).take 24).all (fun c => isCode c || c.before args0 about1) = true := by decide +kernel
set_option maxRecDepth 65536 in
theorem w_t3 : (((words1.drop 24).drop 24).take 24).all (fun c => isCode c || c.before args0 about1) = true := by decide +kernel
set_option maxRecDepth 65536 in
theorem w_t4 : ((((words1.drop 24).drop 24).drop 24).take 24).all (fun c => isCode c || c.before args0 about1) = true := by decide +kernel
set_option maxRecDepth 65536 in
theorem w_t5 : (((((words1.drop 24).drop 24).drop 24).drop 24).take 24).all (fun c => isCode c || c.before args0 about1) = true := by decide +kernel
set_option maxRecDepth 65536 in
theorem w_t6 : ((((((words1.drop 24).drop 24).drop 24).drop 24).drop 24).take 24).all (fun c => isCode c || c.before args0 about1) = true := by decide +kernel
set_option maxRecDepth 65536 in
theorem w_t7 : (((((((words1.drop 24).drop 24).drop 24).drop 24).drop 24).drop 24).take 24).all (fun c => isCode c || c.before args0 about1) = true := by decide +kernel
set_option maxRecDepth 65536 in
theorem w_t8 : (((((((words1.drop 24).drop 24).drop 24).drop 24).drop 24).drop 24).drop 24).all (fun c => isCode c || c.before args0 about1) = true := by decide +kernel
theorem w_tables : (allAtoms (Jvm.Cond.code x code maxLocals ret :: tables_1)).before args0 about1 = true := by
  rw [allAtoms_all]
  show words1.all (fun c => c.before args0 about1) = true
  refine all_split ?_ w_codes
  rw [← List.take_append_drop 24 words1, List.all_append, w_t1, ← List.take_append_drop 24 (words1.drop 24), List.all_append, w_t2, ← List.take_append_drop 24 ((words1.drop 24).drop 24), List.all_append, w_t3, ← List.take_append_drop 24 (((words1.drop 24).drop 24).drop 24), List.all_append, w_t4, ← List.take_append_drop 24 ((((words1.drop 24).drop 24).drop 24).drop 24), List.all_append, w_t5, ← List.take_append_drop 24 (((((words1.drop 24).drop 24).drop 24).drop 24).drop 24), List.all_append, w_t6, ← List.take_append_drop 24 ((((((words1.drop 24).drop 24).drop 24).drop 24).drop 24).drop 24), List.all_append, w_t7, w_t8]
  rfl
set_option maxRecDepth 65536 in
theorem w_rest : rest_1_c.before args0 about1 = true := by decide +kernel
set_option maxRecDepth 65536 in
theorem w_case : (Jvm.Cond.and given_1 narrow_1).before args0 about1 = true := by decide +kernel
set_option maxRecDepth 65536 in
theorem w_consts : constsHeld consts_1 about1 := Jvm.Lit.constsHeldB_iff.mp (by decide +kernel)
theorem w_applies : (headSpec (Jvm.Cond.code x code maxLocals ret :: tables_1) room_1).applies x e0.platform about1 = true :=
  (Spec.applies_iff w_frames).mpr ⟨w_running, w_runnable, w_alone, w_named, w_hears, w_ripe, w_room, w_tables⟩
theorem atStart : AtStart classFile x code maxLocals ret World_1 tables_1 room_1 Calls_1 rest_1 Pre_1 launch0 p0 e0 about1 theMethod args0 below0 :=
  ⟨lists_1, trivial, launch0.admits_env _ _ _, launch0.least_env, fairChoices_fair.cas, fairChoices_fair.clock, w_frames, w_args, w_heap, w_applies, ⟨w_consts, trivial⟩, w_rest, w_case⟩
end start1
theorem witness_1 : WitnessClaimed_1 := ⟨start1.p0, start1.e0, start1.about1, start1.theMethod, start1.args0, start1.below0, start1.atStart⟩
end Jvm.Pilot.@@N@@
