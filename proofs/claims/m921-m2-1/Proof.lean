import JvmDerived
import JvmDerived.Pilot.@@N@@Statement
import JvmDerived.Pilot.@@N@@Code
set_option linter.unusedVariables false
set_option linter.unusedSimpArgs false

namespace Jvm.RoadKit
open Sem ClassFile Op Lib Jvm.Stand Jvm.Free Jvm.LawKit
section New
variable {p : Program} {l : Launch} {e : Env} {R : Room} {s : State} {m : MethodId} {args : Array Value} {below : List Frame} {meth : Method} {c : Code} {T : State} {locs : List Loc} {cells slots : Nat}
theorem retI (X : Stand p l e R s m args below meth c T locs cells slots) (hx : p.tables.exec = Jvm.exec) {pc : Nat} {Ls : Array Slot} {z : Int32} {rest : List Value} (hret : meth.sig.returnType = some .int) (hd : decode c.code pc = .ok (.ireturn, 1)) {fs : List Frame}
    (hl : ∀ (f : JFrame) (acts : List Action), f.method = m → f.locked = none → f.entered = [] → (doReturn e (T.setTop f) acts (some (.int z))).1 = T.setFrames fs) : Steps p.tables e below (T.setTop (mkF m pc Ls (.int z :: rest))) (T.setFrames fs) := by
  have hm' : T.vm.method? m = some meth := X.method'
  have hn : narrow .int (.int z) = .int z := rfl
  show Steps p.tables e below (T.setTop { method := m, pc := pc, locals := Ls, stack := _ :: rest, locked := none }) _
  jvm_step X.here [X.here.top, hx, hd, hm', hret, hn]
  first | (intro acts; rw [hl _ acts rfl rfl rfl]) | rw [hl _ _ rfl rfl rfl]
  exact Steps.refl _
end New
end Jvm.RoadKit
namespace Jvm.Pilot.@@N@@
open Jvm Jvm.ClassFile Sem Op Lib Jvm.Free Jvm.Stand Jvm.LawKit Jvm.RoadKit Bundle Jvm.Pilot.@@N@@.Jvm.D
abbrev y_0 : MethodName := ⟨"com/example/ledgerline/ledgerline/compression/BlockInputStreamLittleEndianPinLaw", "bytesOf", "(JI)[B"⟩
abbrev y_1 : MethodName := ⟨"com/example/ledgerline/ledgerline/compression/BlockInputStream", "littleEndian", "([B)J"⟩
abbrev own_zl (n : Nat) : List Value := List.replicate n (.long (0 : Int64))
abbrev own_zi (n : Nat) : List Value := List.replicate n (.int (0 : Int32))
abbrev own_zr (n : Nat) : List Value := List.replicate n .null
abbrev vi (x : Int32) : Slot := .val (.int x)
abbrev vj (x : Int64) : Slot := .val (.long x)
abbrev vr (x : Addr) : Slot := .val (.ref x)
section Steps
variable {p : Program} {l : Launch} {e : Env} {R : Room} {s : State} {m : MethodId} {args : Array Value} {below : List Frame} {meth : Method} {c : Code} {T : State} {locs : List Loc} {cells slots : Nat} {pc pc' : Nat} {Ls L' : Array Slot} {S : List Value} {t : State} {Z : State} {h : Heap} {a : Addr} {cl : Cell}
abbrev Go (p : Program) (e : Env) (below : List Frame) (T0 : State) (g0 : JFrame) (T : State) (g : JFrame) : Prop := ∀ t, Steps p.tables e below (T.setTop g) t → Steps p.tables e below (T0.setTop g0) t
theorem own_w {Z : State} {a0 : Array Value} (hw : ∀ d ∈ tables_1, d.before a0 Z = true) (k : Nat) {d : Jvm.Cond} (h : tables_1[k]? = some d) : d.before a0 Z = true := hw _ (List.mem_of_getElem? h)
theorem o_iloadN (X : Stand p l e R s m args below meth c T locs cells slots) (hx : p.tables.exec = Jvm.exec) {i : Fin 4} {v : Int32} (hd : decode c.code pc = .ok (.iload_n i, 1)) (hl : Ls[i.val]? = some (.val (.int v))) (k : Steps p.tables e below (T.setTop (mkF m (pc + 1) Ls (.int v :: S))) t) : Steps p.tables e below (T.setTop (mkF m pc Ls (S))) t := XS.iloadN X.here hx rfl hd hl k
theorem o_lloadN (X : Stand p l e R s m args below meth c T locs cells slots) (hx : p.tables.exec = Jvm.exec) {i : Fin 4} {v : Int64} (hd : decode c.code pc = .ok (.lload_n i, 1)) (hl : Ls[i.val]? = some (.val (.long v))) (k : Steps p.tables e below (T.setTop (mkF m (pc + 1) Ls (.long v :: S))) t) : Steps p.tables e below (T.setTop (mkF m pc Ls (S))) t := XS.lloadN X.here hx rfl hd hl k
theorem o_lload (X : Stand p l e R s m args below meth c T locs cells slots) (hx : p.tables.exec = Jvm.exec) {i : Nat} {v : Int64} (hd : decode c.code pc = .ok (.lload i, 2)) (hl : Ls[i]? = some (.val (.long v))) (k : Steps p.tables e below (T.setTop (mkF m (pc + 2) Ls (.long v :: S))) t) : Steps p.tables e below (T.setTop (mkF m pc Ls (S))) t := XS.lload X.here hx rfl hd hl k
theorem o_aloadN (X : Stand p l e R s m args below meth c T locs cells slots) (hx : p.tables.exec = Jvm.exec) {i : Fin 4} {v : Value} (hd : decode c.code pc = .ok (.aload_n i, 1)) (hl : Ls[i.val]? = some (.val v)) (hv : v.isRef = true) (k : Steps p.tables e below (T.setTop (mkF m (pc + 1) Ls (v :: S))) t) : Steps p.tables e below (T.setTop (mkF m pc Ls (S))) t := XS.aloadN X.here hx rfl hd hl hv k
theorem o_aload (X : Stand p l e R s m args below meth c T locs cells slots) (hx : p.tables.exec = Jvm.exec) {i : Nat} {v : Value} (hd : decode c.code pc = .ok (.aload i, 2)) (hl : Ls[i]? = some (.val v)) (hv : v.isRef = true) (k : Steps p.tables e below (T.setTop (mkF m (pc + 2) Ls (v :: S))) t) : Steps p.tables e below (T.setTop (mkF m pc Ls (S))) t := XS.aload X.here hx rfl hd hl hv k
theorem o_istoreN (X : Stand p l e R s m args below meth c T locs cells slots) (hx : p.tables.exec = Jvm.exec) {i : Fin 4} {v : Int32} (hd : decode c.code pc = .ok (.istore_n i, 1)) (hl : storeLocals Ls i.val (.int v) = some L') (k : Steps p.tables e below (T.setTop (mkF m (pc + 1) L' (S))) t) : Steps p.tables e below (T.setTop (mkF m pc Ls (.int v :: S))) t := XS.istoreN X.here hx rfl hd rfl hl k
theorem o_lstoreN (X : Stand p l e R s m args below meth c T locs cells slots) (hx : p.tables.exec = Jvm.exec) {i : Fin 4} {v : Int64} (hd : decode c.code pc = .ok (.lstore_n i, 1)) (hl : storeLocals Ls i.val (.long v) = some L') (k : Steps p.tables e below (T.setTop (mkF m (pc + 1) L' (S))) t) : Steps p.tables e below (T.setTop (mkF m pc Ls (.long v :: S))) t := XS.lstoreN X.here hx rfl hd rfl hl k
theorem o_lstore (X : Stand p l e R s m args below meth c T locs cells slots) (hx : p.tables.exec = Jvm.exec) {i : Nat} {v : Int64} (hd : decode c.code pc = .ok (.lstore i, 2)) (hl : storeLocals Ls i (.long v) = some L') (k : Steps p.tables e below (T.setTop (mkF m (pc + 2) L' (S))) t) : Steps p.tables e below (T.setTop (mkF m pc Ls (.long v :: S))) t := XS.lstore X.here hx rfl hd rfl hl k
theorem o_astoreN (X : Stand p l e R s m args below meth c T locs cells slots) (hx : p.tables.exec = Jvm.exec) {i : Fin 4} {v : Value} (hd : decode c.code pc = .ok (.astore_n i, 1)) (hv : v.isRef = true) (hl : storeLocals Ls i.val v = some L') (k : Steps p.tables e below (T.setTop (mkF m (pc + 1) L' (S))) t) : Steps p.tables e below (T.setTop (mkF m pc Ls (v :: S))) t := XS.astoreN X.here hx rfl hd rfl hv hl k
theorem o_astore (X : Stand p l e R s m args below meth c T locs cells slots) (hx : p.tables.exec = Jvm.exec) {i : Nat} {v : Value} (hd : decode c.code pc = .ok (.astore i, 2)) (hv : v.isRef = true) (hl : storeLocals Ls i v = some L') (k : Steps p.tables e below (T.setTop (mkF m (pc + 2) L' (S))) t) : Steps p.tables e below (T.setTop (mkF m pc Ls (v :: S))) t := XS.astore X.here hx rfl hd rfl hv hl k
theorem o_iconst (X : Stand p l e R s m args below meth c T locs cells slots) (hx : p.tables.exec = Jvm.exec) {i : Int} {v : Int32} (hd : decode c.code pc = .ok (.iconst i, 1)) (hv : v = Int32.ofInt i) (k : Steps p.tables e below (T.setTop (mkF m (pc + 1) Ls (.int v :: S))) t) : Steps p.tables e below (T.setTop (mkF m pc Ls (S))) t := XS.iconst X.here hx rfl hd (hv ▸ k)
theorem o_bipush (X : Stand p l e R s m args below meth c T locs cells slots) (hx : p.tables.exec = Jvm.exec) {i : Int} {v : Int32} (hd : decode c.code pc = .ok (.bipush i, 2)) (hv : v = (Int8.ofInt i).toInt32) (k : Steps p.tables e below (T.setTop (mkF m (pc + 2) Ls (.int v :: S))) t) : Steps p.tables e below (T.setTop (mkF m pc Ls (S))) t := XS.bipush X.here hx rfl hd (hv ▸ k)
theorem o_sipush (X : Stand p l e R s m args below meth c T locs cells slots) (hx : p.tables.exec = Jvm.exec) {i : Int} {v : Int32} (hd : decode c.code pc = .ok (.sipush i, 3)) (hv : v = (Int16.ofInt i).toInt32) (k : Steps p.tables e below (T.setTop (mkF m (pc + 3) Ls (.int v :: S))) t) : Steps p.tables e below (T.setTop (mkF m pc Ls (S))) t := XS.sipush X.here hx rfl hd (hv ▸ k)
theorem o_lconst (X : Stand p l e R s m args below meth c T locs cells slots) (hx : p.tables.exec = Jvm.exec) {i : Fin 2} {v : Int64} (hd : decode c.code pc = .ok (.lconst i, 1)) (hv : v = Int64.ofNat i) (k : Steps p.tables e below (T.setTop (mkF m (pc + 1) Ls (.long v :: S))) t) : Steps p.tables e below (T.setTop (mkF m pc Ls (S))) t := XS.lconst X.here hx rfl hd (hv ▸ k)
theorem o_ldc (X : Stand p l e R s m args below meth c T locs cells slots) (hx : p.tables.exec = Jvm.exec) {own : String} {i : Nat} {v : Int32} (ho : s.vm.findClass own = some m.cls) (w : (Cond.constant own i v).before args s = true) (hd : decode c.code pc = .ok (.ldc i, 2))  (k : Steps p.tables e below (T.setTop (mkF m (pc + 2) Ls (.int v :: S))) t) : Steps p.tables e below (T.setTop (mkF m pc Ls (S))) t := X.ldcInt hx ho w (g := mkF m pc Ls S) rfl hd _ k
theorem o_isubE (X : Stand p l e R s m args below meth c T locs cells slots) (hx : p.tables.exec = Jvm.exec) {x y v : Int32} (hd : decode c.code pc = .ok (.isub, 1)) (hv : v = x - y) (k : Steps p.tables e below (T.setTop (mkF m (pc + 1) Ls (.int v :: S))) t) : Steps p.tables e below (T.setTop (mkF m pc Ls (.int y :: .int x :: S))) t := XS.isub X.here hx rfl hd rfl (hv ▸ k)
theorem o_lsubE (X : Stand p l e R s m args below meth c T locs cells slots) (hx : p.tables.exec = Jvm.exec) {x y v : Int64} (hd : decode c.code pc = .ok (.lsub, 1)) (hv : v = x - y) (k : Steps p.tables e below (T.setTop (mkF m (pc + 1) Ls (.long v :: S))) t) : Steps p.tables e below (T.setTop (mkF m pc Ls (.long y :: .long x :: S))) t := XS.lsub X.here hx rfl hd rfl (hv ▸ k)
theorem o_imulE (X : Stand p l e R s m args below meth c T locs cells slots) (hx : p.tables.exec = Jvm.exec) {x y v : Int32} (hd : decode c.code pc = .ok (.imul, 1)) (hv : v = x * y) (k : Steps p.tables e below (T.setTop (mkF m (pc + 1) Ls (.int v :: S))) t) : Steps p.tables e below (T.setTop (mkF m pc Ls (.int y :: .int x :: S))) t := XS.imul X.here hx rfl hd rfl (hv ▸ k)
theorem o_iand (X : Stand p l e R s m args below meth c T locs cells slots) (hx : p.tables.exec = Jvm.exec) {x y : Int32} (hd : decode c.code pc = .ok (.iand, 1))  (k : Steps p.tables e below (T.setTop (mkF m (pc + 1) Ls (.int (x &&& y) :: S))) t) : Steps p.tables e below (T.setTop (mkF m pc Ls (.int y :: .int x :: S))) t := XS.iand X.here hx rfl hd rfl k
theorem o_land (X : Stand p l e R s m args below meth c T locs cells slots) (hx : p.tables.exec = Jvm.exec) {x y : Int64} (hd : decode c.code pc = .ok (.land, 1))  (k : Steps p.tables e below (T.setTop (mkF m (pc + 1) Ls (.long (x &&& y) :: S))) t) : Steps p.tables e below (T.setTop (mkF m pc Ls (.long y :: .long x :: S))) t := XS.land X.here hx rfl hd rfl k
theorem o_lor (X : Stand p l e R s m args below meth c T locs cells slots) (hx : p.tables.exec = Jvm.exec) {x y : Int64} (hd : decode c.code pc = .ok (.lor, 1))  (k : Steps p.tables e below (T.setTop (mkF m (pc + 1) Ls (.long (x ||| y) :: S))) t) : Steps p.tables e below (T.setTop (mkF m pc Ls (.long y :: .long x :: S))) t := XS.lor X.here hx rfl hd rfl k
theorem o_i2l (X : Stand p l e R s m args below meth c T locs cells slots) (hx : p.tables.exec = Jvm.exec) {x : Int32} (hd : decode c.code pc = .ok (.i2l, 1))  (k : Steps p.tables e below (T.setTop (mkF m (pc + 1) Ls (.long (x.toInt64) :: S))) t) : Steps p.tables e below (T.setTop (mkF m pc Ls (.int x :: S))) t := XS.i2l X.here hx rfl hd rfl k
theorem o_l2i (X : Stand p l e R s m args below meth c T locs cells slots) (hx : p.tables.exec = Jvm.exec) {x : Int64} (hd : decode c.code pc = .ok (.l2i, 1))  (k : Steps p.tables e below (T.setTop (mkF m (pc + 1) Ls (.int (x.toInt32) :: S))) t) : Steps p.tables e below (T.setTop (mkF m pc Ls (.long x :: S))) t := XS.l2i X.here hx rfl hd rfl k
theorem o_i2b (X : Stand p l e R s m args below meth c T locs cells slots) (hx : p.tables.exec = Jvm.exec) {x : Int32} (hd : decode c.code pc = .ok (.i2b, 1))  (k : Steps p.tables e below (T.setTop (mkF m (pc + 1) Ls (.int (x.toInt8.toInt32) :: S))) t) : Steps p.tables e below (T.setTop (mkF m pc Ls (.int x :: S))) t := XS.i2b X.here hx rfl hd rfl k
theorem o_lshl (X : Stand p l e R s m args below meth c T locs cells slots) (hx : p.tables.exec = Jvm.exec) {x : Int64} {y : Int32} (hd : decode c.code pc = .ok (.lshl, 1))  (k : Steps p.tables e below (T.setTop (mkF m (pc + 1) Ls (.long (x <<< (y &&& 0x3f).toInt64) :: S))) t) : Steps p.tables e below (T.setTop (mkF m pc Ls (.int y :: .long x :: S))) t := XS.lshl X.here hx rfl hd rfl k
theorem o_lshlE (X : Stand p l e R s m args below meth c T locs cells slots) (hx : p.tables.exec = Jvm.exec) {x v : Int64} {y : Int32} (hd : decode c.code pc = .ok (.lshl, 1)) (hv : v = (x <<< (y &&& 0x3f).toInt64)) (k : Steps p.tables e below (T.setTop (mkF m (pc + 1) Ls (.long v :: S))) t) : Steps p.tables e below (T.setTop (mkF m pc Ls (.int y :: .long x :: S))) t := XS.lshl X.here hx rfl hd rfl (hv ▸ k)
theorem o_lushr (X : Stand p l e R s m args below meth c T locs cells slots) (hx : p.tables.exec = Jvm.exec) {x : Int64} {y : Int32} (hd : decode c.code pc = .ok (.lushr, 1))  (k : Steps p.tables e below (T.setTop (mkF m (pc + 1) Ls (.long ((x.toUInt64 >>> (y &&& 0x3f).toInt64.toUInt64).toInt64) :: S))) t) : Steps p.tables e below (T.setTop (mkF m pc Ls (.int y :: .long x :: S))) t := XS.lushr X.here hx rfl hd rfl k
theorem o_lcmp (X : Stand p l e R s m args below meth c T locs cells slots) (hx : p.tables.exec = Jvm.exec) {x y : Int64} (hd : decode c.code pc = .ok (.lcmp, 1))  (k : Steps p.tables e below (T.setTop (mkF m (pc + 1) Ls (.int (lcmpW x y) :: S))) t) : Steps p.tables e below (T.setTop (mkF m pc Ls (.long y :: .long x :: S))) t := XS.lcmp X.here hx rfl hd rfl k
theorem o_irem (X : Stand p l e R s m args below meth c T locs cells slots) (hx : p.tables.exec = Jvm.exec) {x y : Int32} (hd : decode c.code pc = .ok (.irem, 1)) (hy : y ≠ 0) (k : Steps p.tables e below (T.setTop (mkF m (pc + 1) Ls (.int (x % y) :: S))) t) : Steps p.tables e below (T.setTop (mkF m pc Ls (.int y :: .int x :: S))) t := iremM X hx rfl hd rfl hy k
theorem o_iinc (X : Stand p l e R s m args below meth c T locs cells slots) (hx : p.tables.exec = Jvm.exec) {i : Nat} {cst : Int} {x : Int32} (hd : decode c.code pc = .ok (.iinc i cst, 3)) (hl : Ls[i]? = some (.val (.int x))) (hl' : storeLocals Ls i (.int (x + Int32.ofInt cst)) = some L') (k : Steps p.tables e below (T.setTop (mkF m (pc + 3) L' (S))) t) : Steps p.tables e below (T.setTop (mkF m pc Ls (S))) t := XS.iinc X.here hx rfl hd hl hl' k
theorem o_goto (X : Stand p l e R s m args below meth c T locs cells slots) (hx : p.tables.exec = Jvm.exec) {o : Int} (hd : decode c.code pc = .ok (.goto o, 3)) (hp : ((pc : Int) + o).toNat = pc') (ho : 0 ≤ (pc : Int) + o) (k : Steps p.tables e below (T.setTop (mkF m (pc') Ls (S))) t) : Steps p.tables e below (T.setTop (mkF m pc Ls (S))) t := XS.goto X.here hx rfl rfl hd ho hp k
theorem o_ifYes (X : Stand p l e R s m args below meth c T locs cells slots) (hx : p.tables.exec = Jvm.exec) {cd : ClassFile.Cond} {x : Int32} {o : Int} (hd : decode c.code pc = .ok (.ifCond cd o, 3)) (hp : ((pc : Int) + o).toNat = pc') (ho : 0 ≤ (pc : Int) + o) (hc : ifCond.holds cd x = true) (k : Steps p.tables e below (T.setTop (mkF m (pc') Ls (S))) t) : Steps p.tables e below (T.setTop (mkF m pc Ls (.int x :: S))) t := XS.ifYes X.here hx rfl rfl hd rfl hc ho hp k
theorem o_ifNo (X : Stand p l e R s m args below meth c T locs cells slots) (hx : p.tables.exec = Jvm.exec) {cd : ClassFile.Cond} {x : Int32} {o : Int} (hd : decode c.code pc = .ok (.ifCond cd o, 3)) (hc : ifCond.holds cd x = false) (k : Steps p.tables e below (T.setTop (mkF m (pc + 3) Ls (S))) t) : Steps p.tables e below (T.setTop (mkF m pc Ls (.int x :: S))) t := XS.ifNo X.here hx rfl hd rfl hc k
theorem o_icmpYes (X : Stand p l e R s m args below meth c T locs cells slots) (hx : p.tables.exec = Jvm.exec) {cd : ClassFile.Cond} {x y : Int32} {o : Int} (hd : decode c.code pc = .ok (.if_icmp cd o, 3)) (hp : ((pc : Int) + o).toNat = pc') (ho : 0 ≤ (pc : Int) + o) (hc : if_icmp.holds cd x y = true) (k : Steps p.tables e below (T.setTop (mkF m (pc') Ls (S))) t) : Steps p.tables e below (T.setTop (mkF m pc Ls (.int y :: .int x :: S))) t := XS.icmpYes X.here hx rfl rfl hd rfl hc ho hp k
theorem o_icmpNo (X : Stand p l e R s m args below meth c T locs cells slots) (hx : p.tables.exec = Jvm.exec) {cd : ClassFile.Cond} {x y : Int32} {o : Int} (hd : decode c.code pc = .ok (.if_icmp cd o, 3)) (hc : if_icmp.holds cd x y = false) (k : Steps p.tables e below (T.setTop (mkF m (pc + 3) Ls (S))) t) : Steps p.tables e below (T.setTop (mkF m pc Ls (.int y :: .int x :: S))) t := XS.icmpNo X.here hx rfl hd rfl hc k
theorem o_len (X : Stand p l e R s m args below meth c T locs cells slots) (hx : p.tables.exec = Jvm.exec) (hZ : Z.Warmed39 s.vm) (eT : T.heap = h) {ty : FieldType} {z : Int32} (A : Arr Z h a cl ty) (Sz : cl.slots.size = z.toNatClampNeg) (Nn : ¬ z < 0) (hd : decode c.code pc = .ok (.arraylength, 1))  (k : Steps p.tables e below (T.setTop (mkF m (pc + 1) Ls (.int z :: S))) t) : Steps p.tables e below (T.setTop (mkF m pc Ls (.ref a :: S))) t := X.arraylength hx (by rw [eT]; exact A.1) (State.isArrayOf_alike hZ.alike A.2.1) (g := mkF m pc Ls (.ref a :: S)) rfl rfl hd _ (by rw [len_of Sz Nn]; exact k)
theorem o_baload (X : Stand p l e R s m args below meth c T locs cells slots) (hx : p.tables.exec = Jvm.exec) (hZ : Z.Warmed39 s.vm) (eT : T.heap = h) {j : Int32} {v : Int32} (A : Arr Z h a cl .byte) (hin : ¬ (j < 0 ∨ cl.slots.size ≤ j.toNatClampNeg)) (hat : cl.slots[j.toNatClampNeg]? = some (.int v)) (hd : decode c.code pc = .ok (.baload, 1))  (k : Steps p.tables e below (T.setTop (mkF m (pc + 1) Ls (.int v :: S))) t) : Steps p.tables e below (T.setTop (mkF m pc Ls (.int j :: .ref a :: S))) t := X.baloadBytes hx (j := j) (v := .int v) (by rw [eT]; exact A.1) (State.isArrayOf_alike hZ.alike A.2.1) A.2.2 hin hat (g := mkF m pc Ls (.int j :: .ref a :: S)) rfl rfl hd _ k
end Steps
theorem own_nar_byte (x : Int32) : nar .byte x.toInt8.toInt32 = x.toInt8.toInt32 := by
  show x.toInt8.toInt32.toInt8.toInt32 = _
  rw [Int8.toInt8_toInt32]
theorem own_nar_short (x : Int32) : nar .short x.toInt16.toInt32 = x.toInt16.toInt32 := by
  show x.toInt16.toInt32.toInt16.toInt32 = _
  rw [Int16.toInt16_toInt32]
theorem own_nar_char (x : Int32) : nar .char x.toUInt32.toUInt16.toUInt32.toInt32 = x.toUInt32.toUInt16.toUInt32.toInt32 := by
  have h := c_i2c x
  have h2 := c_i2c (x.toUInt32.toUInt16.toUInt32.toInt32)
  show (x.toUInt32.toUInt16.toUInt32.toInt32).toUInt32.toUInt16.toUInt32.toInt32 = _
  apply Int32.toInt_inj.mp
  omega

theorem d1_0 : decode method_2_code 0 = .ok (.iload_n 2, 1) := by decide +kernel
theorem d1_1 : decode method_2_code 1 = .ok (.newarray .byte, 2) := by decide +kernel
theorem d1_3 : decode method_2_code 3 = .ok (.astore_n 3, 1) := by decide +kernel
theorem d1_4 : decode method_2_code 4 = .ok (.iload_n 2, 1) := by decide +kernel
theorem d1_5 : decode method_2_code 5 = .ok (.ifCond .le 9, 3) := by decide +kernel
theorem d1_14 : decode method_2_code 14 = .ok (.iload_n 2, 1) := by decide +kernel
theorem d1_15 : decode method_2_code 15 = .ok (.iconst 1, 1) := by decide +kernel
theorem d1_16 : decode method_2_code 16 = .ok (.if_icmp .le 12, 3) := by decide +kernel
theorem d1_28 : decode method_2_code 28 = .ok (.iload_n 2, 1) := by decide +kernel
theorem d1_29 : decode method_2_code 29 = .ok (.iconst 2, 1) := by decide +kernel
theorem d1_30 : decode method_2_code 30 = .ok (.if_icmp .le 12, 3) := by decide +kernel
theorem d1_42 : decode method_2_code 42 = .ok (.iload_n 2, 1) := by decide +kernel
theorem d1_43 : decode method_2_code 43 = .ok (.iconst 3, 1) := by decide +kernel
theorem d1_44 : decode method_2_code 44 = .ok (.if_icmp .le 12, 3) := by decide +kernel
theorem d1_56 : decode method_2_code 56 = .ok (.iload_n 2, 1) := by decide +kernel
theorem d1_57 : decode method_2_code 57 = .ok (.iconst 4, 1) := by decide +kernel
theorem d1_58 : decode method_2_code 58 = .ok (.if_icmp .le 12, 3) := by decide +kernel
theorem d1_70 : decode method_2_code 70 = .ok (.iload_n 2, 1) := by decide +kernel
theorem d1_71 : decode method_2_code 71 = .ok (.iconst 5, 1) := by decide +kernel
theorem d1_72 : decode method_2_code 72 = .ok (.if_icmp .le 12, 3) := by decide +kernel
theorem d1_84 : decode method_2_code 84 = .ok (.iload_n 2, 1) := by decide +kernel
theorem d1_85 : decode method_2_code 85 = .ok (.bipush 6, 2) := by decide +kernel
theorem d1_87 : decode method_2_code 87 = .ok (.if_icmp .le 13, 3) := by decide +kernel
theorem d1_100 : decode method_2_code 100 = .ok (.iload_n 2, 1) := by decide +kernel
theorem d1_101 : decode method_2_code 101 = .ok (.bipush 7, 2) := by decide +kernel
theorem d1_103 : decode method_2_code 103 = .ok (.if_icmp .le 13, 3) := by decide +kernel
theorem d1_116 : decode method_2_code 116 = .ok (.aload_n 3, 1) := by decide +kernel
theorem d1_117 : decode method_2_code 117 = .ok (.areturn, 1) := by decide +kernel
theorem pn_1_0 : plainName "com/example/ledgerline/ledgerline/compression/BlockInputStreamLittleEndianPinLaw" = true := by first | (simp [plainName, overriddenIn]; done) | decide +kernel
theorem ef_1_0 (m : MethodId) (x0 : Int64) : entryFrame m #[(.long x0), (.int (0 : Int32))] 4 = mkF m 0 #[vj x0, .second, vi (0 : Int32), .unset] [] := by first | (simp [entryFrame, mkF, argsToLocals, Value.category]; done) | rfl
def Q1_0 (Z : State) (q1 : Int64) (h0 : Heap) (n0 : Nat) (v : Option Value) (h : Heap) (L : List Loc) : Prop := ∃ b : Addr, ∃ kb : ClassId, v = some (.ref b) ∧ Fr n0 L ∧ Keep h0 h [] ∧ h0.size ≤ b ∧ Arv Z h b kb .byte (0 : Int32) [] (.int (0 : Int32))
set_option maxRecDepth 65536 in
set_option maxHeartbeats 40000000 in
theorem rm1_0 (l : Launch) (Z : State) (a0 : Array Value) (hw : ∀ d ∈ tables_1, d.before a0 Z = true) (ws : List Jvm.Cond) (q1 : Int64) (h0 : Heap) (n0 : Nat) (Z0 : n0 ≤ h0.size) :
    MetFree l y_0 (head1 (Jvm.Cond.code y_0 method_2_code 4 (some (.array .byte)) :: ws) ({ frames := 0, cells := 1, slots := 0, locals := 0 } : Room)) (fun a U => a = #[(.long q1), (.int (0 : Int32))] ∧ Z.Warmed39 U.vm ∧ U.heap = h0) (fun _ _ _ _ _ => True) (fun _ U o U' => ∃ v L, o = .returned v ∧ Q1_0 Z q1 h0 n0 v U'.heap L ∧ FrameEnd U o U' L ({ frames := 0, cells := 1, slots := 0, locals := 0 } : Room).cells ({ frames := 0, cells := 1, slots := 0, locals := 0 } : Room).slots) := by
  refine MetFree.of_bodySF (plainFor_of_name pn_1_0) hisR ?_
  intro p e s m args below meth c s₁ Bd hml0 hP hK
  obtain ⟨rfl, hZ, hh⟩ := hP
  have hx := Bd.exec
  have hby := Bd.bytes
  have hml : c.maxLocals = 4 := hml0
  have hown : s.vm.findClass "com/example/ledgerline/ledgerline/compression/BlockInputStreamLittleEndianPinLaw" = some m.cls := findClass_of_methodNamed Bd.named
  have hnm := (name_of_methodNamed Bd.named Bd.method).1
  have X0 : Stand p l e ({ frames := 0, cells := 1, slots := 0, locals := 0 } : Room) s m #[(.long q1), (.int (0 : Int32))] below meth c s₁ [] 0 0 := Stand.of_body Bd
  have e0 : s₁.heap = h0 := by rw [← hh, Bd.state]; rfl
  have N0 := Fr.nil n0
  have K0 : Keep h0 h0 [] := Keep.refl h0 []
  obtain ⟨F0, hF0⟩ : ∃ F : JFrame, F = entryFrame m #[(.long q1), (.int (0 : Int32))] 4 := ⟨_, rfl⟩
  have pre0 : ∀ t, Steps p.tables e below (s₁.setTop F0) t → Steps p.tables e below (s₁.setTop (entryFrame m #[(.long q1), (.int (0 : Int32))] 4)) t := fun t k => hF0 ▸ k
  have go0 : Go p e below s₁ F0 s₁ (mkF m 0 #[vj q1, .second, vi (0 : Int32), .unset] []) := fun t k => castTop (hF0.trans (ef_1_0 m q1)) k
  have go1 : Go p e below s₁ F0 s₁ (mkF m 1 #[vj q1, .second, vi (0 : Int32), .unset] [(.int (0 : Int32))]) := by
    intro t_ k_
    refine go0 t_ ?_
    refine o_iloadN X0 hx (hb hby d1_0) rfl ?_
    exact k_
  obtain ⟨T2, h2, k2, X2, e2, E2, A2, st2⟩ := newP X0 hx hZ (own_w hw 5 rfl) e0 (g := (mkF m 1 #[vj q1, .second, vi (0 : Int32), .unset] [(.int (0 : Int32))])) rfl (hb hby d1_1) rfl (by decide) (cap := 0) (by decide) (by decide) (by decide) (by decide)
  obtain ⟨b2, gz2⟩ : ∃ z, z = h0.size := ⟨_, rfl⟩
  rw [← gz2] at A2 st2
  have g_b2 : n0 ≤ b2 := Nat.le_trans Z0 (Nat.le_of_eq gz2.symm)
  have sz_b2 : h0.size ≤ b2 := Nat.le_trans K0.1 (Nat.le_of_eq gz2.symm)
  have K3 : Keep h0 h2 [] := K0.ext E2
  have Z3 : n0 ≤ h2.size := Nat.le_trans Z0 E2.1
  have V2 : Arv Z h2 b2 k2 .byte (0 : Int32) [] (.int (0 : Int32)) := (Arv.new A2 (by decide)).pad (pad_rep [] (.int (0 : Int32)) 0)
  have go4 : Go p e below s₁ F0 T2 (mkF m 3 #[vj q1, .second, vi (0 : Int32), .unset] [(.ref b2)]) := fun t_ k_ => go1 t_ (st2 t_ k_)
  have go5 : Go p e below s₁ F0 T2 (mkF m 117 #[vj q1, .second, vi (0 : Int32), vr b2] [(.ref b2)]) := by
    intro t_ k_
    refine go4 t_ ?_
    refine o_astoreN X2 hx (hb hby d1_3) rfl (L' := #[vj q1, .second, vi (0 : Int32), vr b2]) rfl ?_
    refine o_iloadN X2 hx (hb hby d1_4) rfl ?_
    refine o_ifYes X2 hx (hb hby d1_5) (pc' := 14) rfl (by decide) ((if0 _ _).trans (flt (by decide : ¬ ((0 : Int32) < (0 : Int32)))).2.2.2) ?_
    refine o_iloadN X2 hx (hb hby d1_14) rfl ?_
    refine o_iconst X2 hx (hb hby d1_15) (v := 1) rfl ?_
    refine o_icmpYes X2 hx (hb hby d1_16) (pc' := 28) rfl (by decide) (flt (by decide : ¬ ((1 : Int32) < (0 : Int32)))).2.2.2 ?_
    refine o_iloadN X2 hx (hb hby d1_28) rfl ?_
    refine o_iconst X2 hx (hb hby d1_29) (v := 2) rfl ?_
    refine o_icmpYes X2 hx (hb hby d1_30) (pc' := 42) rfl (by decide) (flt (by decide : ¬ ((2 : Int32) < (0 : Int32)))).2.2.2 ?_
    refine o_iloadN X2 hx (hb hby d1_42) rfl ?_
    refine o_iconst X2 hx (hb hby d1_43) (v := 3) rfl ?_
    refine o_icmpYes X2 hx (hb hby d1_44) (pc' := 56) rfl (by decide) (flt (by decide : ¬ ((3 : Int32) < (0 : Int32)))).2.2.2 ?_
    refine o_iloadN X2 hx (hb hby d1_56) rfl ?_
    refine o_iconst X2 hx (hb hby d1_57) (v := 4) rfl ?_
    refine o_icmpYes X2 hx (hb hby d1_58) (pc' := 70) rfl (by decide) (flt (by decide : ¬ ((4 : Int32) < (0 : Int32)))).2.2.2 ?_
    refine o_iloadN X2 hx (hb hby d1_70) rfl ?_
    refine o_iconst X2 hx (hb hby d1_71) (v := 5) rfl ?_
    refine o_icmpYes X2 hx (hb hby d1_72) (pc' := 84) rfl (by decide) (flt (by decide : ¬ ((5 : Int32) < (0 : Int32)))).2.2.2 ?_
    refine o_iloadN X2 hx (hb hby d1_84) rfl ?_
    refine o_bipush X2 hx (hb hby d1_85) (v := 6) rfl ?_
    refine o_icmpYes X2 hx (hb hby d1_87) (pc' := 100) rfl (by decide) (flt (by decide : ¬ ((6 : Int32) < (0 : Int32)))).2.2.2 ?_
    refine o_iloadN X2 hx (hb hby d1_100) rfl ?_
    refine o_bipush X2 hx (hb hby d1_101) (v := 7) rfl ?_
    refine o_icmpYes X2 hx (hb hby d1_103) (pc' := 116) rfl (by decide) (flt (by decide : ¬ ((7 : Int32) < (0 : Int32)))).2.2.2 ?_
    refine o_aloadN X2 hx (hb hby d1_116) rfl rfl ?_
    exact k_
  obtain ⟨fs, hr, hrun, hended, hW, hsame⟩ := X2.leave (v := some (.ref b2)) (fun h => by rw [Bd.returns] at h; cases h)
  refine ⟨_, _, pre0 _ (go5 _ ?_), hrun, hended, _, _, rfl, ?_, ⟨_, rfl⟩, hW, hsame.mono (by decide) (by decide)⟩
  · skip
    exact retOut X2 hx Bd.returns rfl (Or.inr (Or.inr (Or.inr (Or.inr ⟨rfl, rfl, rfl⟩)))) (hb hby d1_117) hr
  · show Q1_0 Z q1 h0 n0 _ T2.heap _
    rw [e2]
    exact ⟨b2, k2, rfl, N0, K3, sz_b2, V2⟩

theorem d2_0 : decode prog_3_method_9_code 0 = .ok (.lconst 0, 1) := by decide +kernel
theorem d2_1 : decode prog_3_method_9_code 1 = .ok (.lstore_n 1, 1) := by decide +kernel
theorem d2_2 : decode prog_3_method_9_code 2 = .ok (.aload_n 0, 1) := by decide +kernel
theorem d2_3 : decode prog_3_method_9_code 3 = .ok (.arraylength, 1) := by decide +kernel
theorem d2_4 : decode prog_3_method_9_code 4 = .ok (.iconst 1, 1) := by decide +kernel
theorem d2_5 : decode prog_3_method_9_code 5 = .ok (.isub, 1) := by decide +kernel
theorem d2_6 : decode prog_3_method_9_code 6 = .ok (.istore_n 3, 1) := by decide +kernel
theorem d2_7 : decode prog_3_method_9_code 7 = .ok (.iload_n 3, 1) := by decide +kernel
theorem d2_8 : decode prog_3_method_9_code 8 = .ok (.ifCond .lt 23, 3) := by decide +kernel
theorem d2_31 : decode prog_3_method_9_code 31 = .ok (.lload_n 1, 1) := by decide +kernel
theorem d2_32 : decode prog_3_method_9_code 32 = .ok (.lreturn, 1) := by decide +kernel
theorem pn_2_0 : plainName "com/example/ledgerline/ledgerline/compression/BlockInputStream" = true := by first | (simp [plainName, overriddenIn]; done) | decide +kernel
theorem ef_2_0 (m : MethodId) (x0 : Addr) : entryFrame m #[(.ref x0)] 4 = mkF m 0 #[vr x0, .unset, .unset, .unset] [] := by first | (simp [entryFrame, mkF, argsToLocals, Value.category]; done) | rfl
def f2_0  : Int64 := (0 : Int64)
def Q2_0 (Z : State) (a1 : Addr) (k1 : ClassId) (h0 : Heap) (n0 : Nat) (v : Option Value) (h : Heap) (L : List Loc) : Prop := v = some (.long (f2_0 )) ∧ Fr n0 L ∧ h = h0
set_option maxRecDepth 65536 in
set_option maxHeartbeats 40000000 in
theorem rm2_0 (l : Launch) (Z : State) (a0 : Array Value) (hw : ∀ d ∈ tables_1, d.before a0 Z = true) (ws : List Jvm.Cond) (a1 : Addr) (k1 : ClassId) (h0 : Heap) (n0 : Nat) (Z0 : n0 ≤ h0.size) (V0 : Arv Z h0 a1 k1 .byte (0 : Int32) [] (.int (0 : Int32))) :
    MetFree l y_1 (head1 (Jvm.Cond.code y_1 prog_3_method_9_code 4 (some .long) :: ws) ({ frames := 0, cells := 0, slots := 0, locals := 0 } : Room)) (fun a U => a = #[(.ref a1)] ∧ Z.Warmed39 U.vm ∧ U.heap = h0) (fun _ _ _ _ _ => True) (fun _ U o U' => ∃ v L, o = .returned v ∧ Q2_0 Z a1 k1 h0 n0 v U'.heap L ∧ FrameEnd U o U' L ({ frames := 0, cells := 0, slots := 0, locals := 0 } : Room).cells ({ frames := 0, cells := 0, slots := 0, locals := 0 } : Room).slots) := by
  refine MetFree.of_bodySF (plainFor_of_name pn_2_0) hisR ?_
  intro p e s m args below meth c s₁ Bd hml0 hP hK
  obtain ⟨rfl, hZ, hh⟩ := hP
  have hx := Bd.exec
  have hby := Bd.bytes
  have hml : c.maxLocals = 4 := hml0
  have hown : s.vm.findClass "com/example/ledgerline/ledgerline/compression/BlockInputStream" = some m.cls := findClass_of_methodNamed Bd.named
  have hnm := (name_of_methodNamed Bd.named Bd.method).1
  have X0 : Stand p l e ({ frames := 0, cells := 0, slots := 0, locals := 0 } : Room) s m #[(.ref a1)] below meth c s₁ [] 0 0 := Stand.of_body Bd
  have e0 : s₁.heap = h0 := by rw [← hh, Bd.state]; rfl
  have N0 := Fr.nil n0
  obtain ⟨F0, hF0⟩ : ∃ F : JFrame, F = entryFrame m #[(.ref a1)] 4 := ⟨_, rfl⟩
  have pre0 : ∀ t, Steps p.tables e below (s₁.setTop F0) t → Steps p.tables e below (s₁.setTop (entryFrame m #[(.ref a1)] 4)) t := fun t k => hF0 ▸ k
  have go0 : Go p e below s₁ F0 s₁ (mkF m 0 #[vr a1, .unset, .unset, .unset] []) := fun t k => castTop (hF0.trans (ef_2_0 m a1)) k
  have go1 : Go p e below s₁ F0 s₁ (mkF m 3 #[vr a1, vj (0 : Int64), .second, .unset] [(.ref a1)]) := by
    intro t_ k_
    refine go0 t_ ?_
    refine o_lconst X0 hx (hb hby d2_0) (v := 0) rfl ?_
    refine o_lstoreN X0 hx (hb hby d2_1) (L' := #[vr a1, vj (0 : Int64), .second, .unset]) rfl ?_
    refine o_aloadN X0 hx (hb hby d2_2) rfl rfl ?_
    exact k_
  obtain ⟨cl2, Ar2, -, Sz2, Nn2, -, -⟩ := id V0
  have go3 : Go p e below s₁ F0 s₁ (mkF m 32 #[vr a1, vj (0 : Int64), .second, vi (-1 : Int32)] [(.long (0 : Int64))]) := by
    intro t_ k_
    refine go1 t_ ?_
    refine o_len X0 hx hZ e0 Ar2 Sz2 Nn2 (hb hby d2_3) ?_
    refine o_iconst X0 hx (hb hby d2_4) (v := 1) rfl ?_
    refine o_isubE X0 hx (hb hby d2_5) (v := -1) rfl ?_
    refine o_istoreN X0 hx (hb hby d2_6) (L' := #[vr a1, vj (0 : Int64), .second, vi (-1 : Int32)]) rfl ?_
    refine o_iloadN X0 hx (hb hby d2_7) rfl ?_
    refine o_ifYes X0 hx (hb hby d2_8) (pc' := 31) rfl (by decide) ((if0 _ _).trans (tlt (by decide : (-1 : Int32) < (0 : Int32))).1) ?_
    refine o_lloadN X0 hx (hb hby d2_31) rfl ?_
    exact k_
  obtain ⟨fs, hr, hrun, hended, hW, hsame⟩ := X0.leave (v := some (.long (0 : Int64))) (fun h => by rw [Bd.returns] at h; cases h)
  refine ⟨_, _, pre0 _ (go3 _ ?_), hrun, hended, _, _, rfl, ?_, ⟨_, rfl⟩, hW, hsame.mono (by decide) (by decide)⟩
  · skip
    exact retOut X0 hx Bd.returns rfl (Or.inr (Or.inl ⟨rfl, rfl, _, rfl⟩)) (hb hby d2_32) hr
  · show Q2_0 Z a1 k1 h0 n0 _ s₁.heap _
    rw [e0]
    exact ⟨(congrArg (fun z => some (Value.long z)) (show (0 : Int64) = f2_0  from by unfold f2_0; rfl)), N0, rfl⟩

theorem d1_8 : decode method_2_code 8 = .ok (.aload_n 3, 1) := by decide +kernel
theorem d1_9 : decode method_2_code 9 = .ok (.iconst 0, 1) := by decide +kernel
theorem d1_10 : decode method_2_code 10 = .ok (.lload_n 0, 1) := by decide +kernel
theorem d1_11 : decode method_2_code 11 = .ok (.l2i, 1) := by decide +kernel
theorem d1_12 : decode method_2_code 12 = .ok (.i2b, 1) := by decide +kernel
theorem d1_13 : decode method_2_code 13 = .ok (.bastore, 1) := by decide +kernel
theorem pn_1_1 : plainName "com/example/ledgerline/ledgerline/compression/BlockInputStreamLittleEndianPinLaw" = true := by first | (simp [plainName, overriddenIn]; done) | decide +kernel
theorem ef_1_1 (m : MethodId) (x0 : Int64) : entryFrame m #[(.long x0), (.int (1 : Int32))] 4 = mkF m 0 #[vj x0, .second, vi (1 : Int32), .unset] [] := by first | (simp [entryFrame, mkF, argsToLocals, Value.category]; done) | rfl
def Q1_1 (Z : State) (q1 : Int64) (h0 : Heap) (n0 : Nat) (v : Option Value) (h : Heap) (L : List Loc) : Prop := ∃ b : Addr, ∃ kb : ClassId, v = some (.ref b) ∧ Fr n0 L ∧ Keep h0 h [] ∧ h0.size ≤ b ∧ Arv Z h b kb .byte (1 : Int32) [(.int ((q1.toInt32).toInt8.toInt32))] (.int (0 : Int32))
set_option maxRecDepth 65536 in
set_option maxHeartbeats 40000000 in
theorem rm1_1 (l : Launch) (Z : State) (a0 : Array Value) (hw : ∀ d ∈ tables_1, d.before a0 Z = true) (ws : List Jvm.Cond) (q1 : Int64) (h0 : Heap) (n0 : Nat) (Z0 : n0 ≤ h0.size) :
    MetFree l y_0 (head1 (Jvm.Cond.code y_0 method_2_code 4 (some (.array .byte)) :: ws) ({ frames := 0, cells := 1, slots := 1, locals := 0 } : Room)) (fun a U => a = #[(.long q1), (.int (1 : Int32))] ∧ Z.Warmed39 U.vm ∧ U.heap = h0) (fun _ _ _ _ _ => True) (fun _ U o U' => ∃ v L, o = .returned v ∧ Q1_1 Z q1 h0 n0 v U'.heap L ∧ FrameEnd U o U' L ({ frames := 0, cells := 1, slots := 1, locals := 0 } : Room).cells ({ frames := 0, cells := 1, slots := 1, locals := 0 } : Room).slots) := by
  refine MetFree.of_bodySF (plainFor_of_name pn_1_1) hisR ?_
  intro p e s m args below meth c s₁ Bd hml0 hP hK
  obtain ⟨rfl, hZ, hh⟩ := hP
  have hx := Bd.exec
  have hby := Bd.bytes
  have hml : c.maxLocals = 4 := hml0
  have hown : s.vm.findClass "com/example/ledgerline/ledgerline/compression/BlockInputStreamLittleEndianPinLaw" = some m.cls := findClass_of_methodNamed Bd.named
  have hnm := (name_of_methodNamed Bd.named Bd.method).1
  have X0 : Stand p l e ({ frames := 0, cells := 1, slots := 1, locals := 0 } : Room) s m #[(.long q1), (.int (1 : Int32))] below meth c s₁ [] 0 0 := Stand.of_body Bd
  have e0 : s₁.heap = h0 := by rw [← hh, Bd.state]; rfl
  have N0 := Fr.nil n0
  have K0 : Keep h0 h0 [] := Keep.refl h0 []
  obtain ⟨F0, hF0⟩ : ∃ F : JFrame, F = entryFrame m #[(.long q1), (.int (1 : Int32))] 4 := ⟨_, rfl⟩
  have pre0 : ∀ t, Steps p.tables e below (s₁.setTop F0) t → Steps p.tables e below (s₁.setTop (entryFrame m #[(.long q1), (.int (1 : Int32))] 4)) t := fun t k => hF0 ▸ k
  have go0 : Go p e below s₁ F0 s₁ (mkF m 0 #[vj q1, .second, vi (1 : Int32), .unset] []) := fun t k => castTop (hF0.trans (ef_1_1 m q1)) k
  have go1 : Go p e below s₁ F0 s₁ (mkF m 1 #[vj q1, .second, vi (1 : Int32), .unset] [(.int (1 : Int32))]) := by
    intro t_ k_
    refine go0 t_ ?_
    refine o_iloadN X0 hx (hb hby d1_0) rfl ?_
    exact k_
  obtain ⟨T2, h2, k2, X2, e2, E2, A2, st2⟩ := newP X0 hx hZ (own_w hw 5 rfl) e0 (g := (mkF m 1 #[vj q1, .second, vi (1 : Int32), .unset] [(.int (1 : Int32))])) rfl (hb hby d1_1) rfl (by decide) (cap := 1) (by decide) (by decide) (by decide) (by decide)
  obtain ⟨b2, gz2⟩ : ∃ z, z = h0.size := ⟨_, rfl⟩
  rw [← gz2] at A2 st2
  have g_b2 : n0 ≤ b2 := Nat.le_trans Z0 (Nat.le_of_eq gz2.symm)
  have sz_b2 : h0.size ≤ b2 := Nat.le_trans K0.1 (Nat.le_of_eq gz2.symm)
  have K3 : Keep h0 h2 [] := K0.ext E2
  have Z3 : n0 ≤ h2.size := Nat.le_trans Z0 E2.1
  have V2 : Arv Z h2 b2 k2 .byte (1 : Int32) [(.int (0 : Int32))] (.int (0 : Int32)) := (Arv.new A2 (by decide)).pad (pad_rep [] (.int (0 : Int32)) 1)
  have go4 : Go p e below s₁ F0 T2 (mkF m 3 #[vj q1, .second, vi (1 : Int32), .unset] [(.ref b2)]) := fun t_ k_ => go1 t_ (st2 t_ k_)
  have go5 : Go p e below s₁ F0 T2 (mkF m 13 #[vj q1, .second, vi (1 : Int32), vr b2] [(.int ((q1.toInt32).toInt8.toInt32)), (.int (0 : Int32)), (.ref b2)]) := by
    intro t_ k_
    refine go4 t_ ?_
    refine o_astoreN X2 hx (hb hby d1_3) rfl (L' := #[vj q1, .second, vi (1 : Int32), vr b2]) rfl ?_
    refine o_iloadN X2 hx (hb hby d1_4) rfl ?_
    refine o_ifNo X2 hx (hb hby d1_5) ((if0 _ _).trans (tlt (by decide : (0 : Int32) < (1 : Int32))).2.2.2) ?_
    refine o_aloadN X2 hx (hb hby d1_8) rfl rfl ?_
    refine o_iconst X2 hx (hb hby d1_9) (v := 0) rfl ?_
    refine o_lloadN X2 hx (hb hby d1_10) rfl ?_
    refine o_l2i X2 hx (hb hby d1_11) ?_
    refine o_i2b X2 hx (hb hby d1_12) ?_
    exact k_
  obtain ⟨cl6, Ar6, q6, Sz6, Nn6, Hs6, G6⟩ := id V2
  have hin6 : ¬ ((0 : Int32) < 0 ∨ cl6.slots.size ≤ ((0 : Int32)).toNatClampNeg) := inb_of Sz6 ⟨by decide, by decide⟩
  obtain ⟨T6, h6, X6, e6, W6, st6⟩ := stB X2 hx hZ e2 Ar6 (j := (0 : Int32)) hin6 (g := (mkF m 13 #[vj q1, .second, vi (1 : Int32), vr b2] [(.int ((q1.toInt32).toInt8.toInt32)), (.int (0 : Int32)), (.ref b2)])) rfl rfl (hb hby d1_13)
  rw [own_nar_byte] at W6
  have V6 : Arv Z h6 b2 k2 .byte (1 : Int32) [(.int ((q1.toInt32).toInt8.toInt32))] (.int (0 : Int32)) := Arv.set Ar6 q6 Sz6 Nn6 Hs6 G6 (fits_nar_byte _) W6 0 rfl (Nat.le_of_ble_eq_true rfl)
  have K7 : Keep h0 h6 [] := K3.wr W6 (Or.inr sz_b2)
  have Z7 : n0 ≤ h6.size := Nat.le_trans Z3 (Keep.of_wr W6).1
  have N6 := Fr.snoc X6 N0 g_b2
  have go8 : Go p e below s₁ F0 T6 (mkF m 14 #[vj q1, .second, vi (1 : Int32), vr b2] []) := fun t_ k_ => go5 t_ (st6 t_ k_)
  have go9 : Go p e below s₁ F0 T6 (mkF m 117 #[vj q1, .second, vi (1 : Int32), vr b2] [(.ref b2)]) := by
    intro t_ k_
    refine go8 t_ ?_
    refine o_iloadN X6 hx (hb hby d1_14) rfl ?_
    refine o_iconst X6 hx (hb hby d1_15) (v := 1) rfl ?_
    refine o_icmpYes X6 hx (hb hby d1_16) (pc' := 28) rfl (by decide) (flt (by decide : ¬ ((1 : Int32) < (1 : Int32)))).2.2.2 ?_
    refine o_iloadN X6 hx (hb hby d1_28) rfl ?_
    refine o_iconst X6 hx (hb hby d1_29) (v := 2) rfl ?_
    refine o_icmpYes X6 hx (hb hby d1_30) (pc' := 42) rfl (by decide) (flt (by decide : ¬ ((2 : Int32) < (1 : Int32)))).2.2.2 ?_
    refine o_iloadN X6 hx (hb hby d1_42) rfl ?_
    refine o_iconst X6 hx (hb hby d1_43) (v := 3) rfl ?_
    refine o_icmpYes X6 hx (hb hby d1_44) (pc' := 56) rfl (by decide) (flt (by decide : ¬ ((3 : Int32) < (1 : Int32)))).2.2.2 ?_
    refine o_iloadN X6 hx (hb hby d1_56) rfl ?_
    refine o_iconst X6 hx (hb hby d1_57) (v := 4) rfl ?_
    refine o_icmpYes X6 hx (hb hby d1_58) (pc' := 70) rfl (by decide) (flt (by decide : ¬ ((4 : Int32) < (1 : Int32)))).2.2.2 ?_
    refine o_iloadN X6 hx (hb hby d1_70) rfl ?_
    refine o_iconst X6 hx (hb hby d1_71) (v := 5) rfl ?_
    refine o_icmpYes X6 hx (hb hby d1_72) (pc' := 84) rfl (by decide) (flt (by decide : ¬ ((5 : Int32) < (1 : Int32)))).2.2.2 ?_
    refine o_iloadN X6 hx (hb hby d1_84) rfl ?_
    refine o_bipush X6 hx (hb hby d1_85) (v := 6) rfl ?_
    refine o_icmpYes X6 hx (hb hby d1_87) (pc' := 100) rfl (by decide) (flt (by decide : ¬ ((6 : Int32) < (1 : Int32)))).2.2.2 ?_
    refine o_iloadN X6 hx (hb hby d1_100) rfl ?_
    refine o_bipush X6 hx (hb hby d1_101) (v := 7) rfl ?_
    refine o_icmpYes X6 hx (hb hby d1_103) (pc' := 116) rfl (by decide) (flt (by decide : ¬ ((7 : Int32) < (1 : Int32)))).2.2.2 ?_
    refine o_aloadN X6 hx (hb hby d1_116) rfl rfl ?_
    exact k_
  obtain ⟨fs, hr, hrun, hended, hW, hsame⟩ := X6.leave (v := some (.ref b2)) (fun h => by rw [Bd.returns] at h; cases h)
  refine ⟨_, _, pre0 _ (go9 _ ?_), hrun, hended, _, _, rfl, ?_, ⟨_, rfl⟩, hW, hsame.mono (by decide) (by decide)⟩
  · skip
    exact retOut X6 hx Bd.returns rfl (Or.inr (Or.inr (Or.inr (Or.inr ⟨rfl, rfl, rfl⟩)))) (hb hby d1_117) hr
  · show Q1_1 Z q1 h0 n0 _ T6.heap _
    rw [e6]
    exact ⟨b2, k2, rfl, N6, K7, sz_b2, V6⟩

theorem d2_11 : decode prog_3_method_9_code 11 = .ok (.lload_n 1, 1) := by decide +kernel
theorem d2_12 : decode prog_3_method_9_code 12 = .ok (.bipush 8, 2) := by decide +kernel
theorem d2_14 : decode prog_3_method_9_code 14 = .ok (.lshl, 1) := by decide +kernel
theorem d2_15 : decode prog_3_method_9_code 15 = .ok (.aload_n 0, 1) := by decide +kernel
theorem d2_16 : decode prog_3_method_9_code 16 = .ok (.iload_n 3, 1) := by decide +kernel
theorem d2_17 : decode prog_3_method_9_code 17 = .ok (.baload, 1) := by decide +kernel
theorem d2_18 : decode prog_3_method_9_code 18 = .ok (.sipush 255, 3) := by decide +kernel
theorem d2_21 : decode prog_3_method_9_code 21 = .ok (.iand, 1) := by decide +kernel
theorem d2_22 : decode prog_3_method_9_code 22 = .ok (.i2l, 1) := by decide +kernel
theorem d2_23 : decode prog_3_method_9_code 23 = .ok (.lor, 1) := by decide +kernel
theorem d2_24 : decode prog_3_method_9_code 24 = .ok (.lstore_n 1, 1) := by decide +kernel
theorem d2_25 : decode prog_3_method_9_code 25 = .ok (.iinc 3 (-1), 3) := by decide +kernel
theorem d2_28 : decode prog_3_method_9_code 28 = .ok (.goto (-21), 3) := by decide +kernel
theorem pn_2_1 : plainName "com/example/ledgerline/ledgerline/compression/BlockInputStream" = true := by first | (simp [plainName, overriddenIn]; done) | decide +kernel
theorem ef_2_1 (m : MethodId) (x0 : Addr) : entryFrame m #[(.ref x0)] 4 = mkF m 0 #[vr x0, .unset, .unset, .unset] [] := by first | (simp [entryFrame, mkF, argsToLocals, Value.category]; done) | rfl
def f2_1 (w0 : Int32) : Int64 := ((0 : Int64) ||| ((w0 &&& (255 : Int32)).toInt64))
def Q2_1 (Z : State) (a1 : Addr) (k1 : ClassId) (w0 : Int32) (h0 : Heap) (n0 : Nat) (v : Option Value) (h : Heap) (L : List Loc) : Prop := v = some (.long (f2_1 w0)) ∧ Fr n0 L ∧ h = h0
set_option maxRecDepth 65536 in
set_option maxHeartbeats 40000000 in
theorem rm2_1 (l : Launch) (Z : State) (a0 : Array Value) (hw : ∀ d ∈ tables_1, d.before a0 Z = true) (ws : List Jvm.Cond) (a1 : Addr) (k1 : ClassId) (w0 : Int32) (h0 : Heap) (n0 : Nat) (Z0 : n0 ≤ h0.size) (V0 : Arv Z h0 a1 k1 .byte (1 : Int32) [(.int w0)] (.int (0 : Int32))) :
    MetFree l y_1 (head1 (Jvm.Cond.code y_1 prog_3_method_9_code 4 (some .long) :: ws) ({ frames := 0, cells := 0, slots := 0, locals := 0 } : Room)) (fun a U => a = #[(.ref a1)] ∧ Z.Warmed39 U.vm ∧ U.heap = h0) (fun _ _ _ _ _ => True) (fun _ U o U' => ∃ v L, o = .returned v ∧ Q2_1 Z a1 k1 w0 h0 n0 v U'.heap L ∧ FrameEnd U o U' L ({ frames := 0, cells := 0, slots := 0, locals := 0 } : Room).cells ({ frames := 0, cells := 0, slots := 0, locals := 0 } : Room).slots) := by
  refine MetFree.of_bodySF (plainFor_of_name pn_2_1) hisR ?_
  intro p e s m args below meth c s₁ Bd hml0 hP hK
  obtain ⟨rfl, hZ, hh⟩ := hP
  have hx := Bd.exec
  have hby := Bd.bytes
  have hml : c.maxLocals = 4 := hml0
  have hown : s.vm.findClass "com/example/ledgerline/ledgerline/compression/BlockInputStream" = some m.cls := findClass_of_methodNamed Bd.named
  have hnm := (name_of_methodNamed Bd.named Bd.method).1
  have X0 : Stand p l e ({ frames := 0, cells := 0, slots := 0, locals := 0 } : Room) s m #[(.ref a1)] below meth c s₁ [] 0 0 := Stand.of_body Bd
  have e0 : s₁.heap = h0 := by rw [← hh, Bd.state]; rfl
  have N0 := Fr.nil n0
  obtain ⟨F0, hF0⟩ : ∃ F : JFrame, F = entryFrame m #[(.ref a1)] 4 := ⟨_, rfl⟩
  have pre0 : ∀ t, Steps p.tables e below (s₁.setTop F0) t → Steps p.tables e below (s₁.setTop (entryFrame m #[(.ref a1)] 4)) t := fun t k => hF0 ▸ k
  have go0 : Go p e below s₁ F0 s₁ (mkF m 0 #[vr a1, .unset, .unset, .unset] []) := fun t k => castTop (hF0.trans (ef_2_1 m a1)) k
  have go1 : Go p e below s₁ F0 s₁ (mkF m 3 #[vr a1, vj (0 : Int64), .second, .unset] [(.ref a1)]) := by
    intro t_ k_
    refine go0 t_ ?_
    refine o_lconst X0 hx (hb hby d2_0) (v := 0) rfl ?_
    refine o_lstoreN X0 hx (hb hby d2_1) (L' := #[vr a1, vj (0 : Int64), .second, .unset]) rfl ?_
    refine o_aloadN X0 hx (hb hby d2_2) rfl rfl ?_
    exact k_
  obtain ⟨cl2, Ar2, -, Sz2, Nn2, -, -⟩ := id V0
  have go3 : Go p e below s₁ F0 s₁ (mkF m 17 #[vr a1, vj (0 : Int64), .second, vi (0 : Int32)] [(.int (0 : Int32)), (.ref a1), (.long (0 : Int64))]) := by
    intro t_ k_
    refine go1 t_ ?_
    refine o_len X0 hx hZ e0 Ar2 Sz2 Nn2 (hb hby d2_3) ?_
    refine o_iconst X0 hx (hb hby d2_4) (v := 1) rfl ?_
    refine o_isubE X0 hx (hb hby d2_5) (v := 0) rfl ?_
    refine o_istoreN X0 hx (hb hby d2_6) (L' := #[vr a1, vj (0 : Int64), .second, vi (0 : Int32)]) rfl ?_
    refine o_iloadN X0 hx (hb hby d2_7) rfl ?_
    refine o_ifNo X0 hx (hb hby d2_8) ((if0 _ _).trans (flt (by decide : ¬ ((0 : Int32) < (0 : Int32)))).1) ?_
    refine o_lloadN X0 hx (hb hby d2_11) rfl ?_
    refine o_bipush X0 hx (hb hby d2_12) (v := 8) rfl ?_
    refine o_lshlE X0 hx (hb hby d2_14) (v := 0) rfl ?_
    refine o_aloadN X0 hx (hb hby d2_15) rfl rfl ?_
    refine o_iloadN X0 hx (hb hby d2_16) rfl ?_
    exact k_
  obtain ⟨cl4, Ar4, -, Sz4, Nn4, Hs4, -⟩ := id V0
  have hin4 : ¬ ((0 : Int32) < 0 ∨ cl4.slots.size ≤ ((0 : Int32)).toNatClampNeg) := inb_of Sz4 ⟨by decide, by decide⟩
  have hat4 : cl4.slots[((0 : Int32)).toNatClampNeg]? = some (.int w0) := Hs4.at hin4 rfl
  have go5 : Go p e below s₁ F0 s₁ (mkF m 32 #[vr a1, vj ((0 : Int64) ||| ((w0 &&& (255 : Int32)).toInt64)), .second, vi (-1 : Int32)] [(.long ((0 : Int64) ||| ((w0 &&& (255 : Int32)).toInt64)))]) := by
    intro t_ k_
    refine go3 t_ ?_
    refine o_baload X0 hx hZ e0 Ar4 hin4 hat4 (hb hby d2_17) ?_
    refine o_sipush X0 hx (hb hby d2_18) (v := 255) rfl ?_
    refine o_iand X0 hx (hb hby d2_21) ?_
    refine o_i2l X0 hx (hb hby d2_22) ?_
    refine o_lor X0 hx (hb hby d2_23) ?_
    refine o_lstoreN X0 hx (hb hby d2_24) (L' := #[vr a1, vj ((0 : Int64) ||| ((w0 &&& (255 : Int32)).toInt64)), .second, vi (0 : Int32)]) rfl ?_
    refine o_iinc X0 hx (hb hby d2_25) rfl (L' := #[vr a1, vj ((0 : Int64) ||| ((w0 &&& (255 : Int32)).toInt64)), .second, vi (-1 : Int32)]) rfl ?_
    refine o_goto X0 hx (hb hby d2_28) (pc' := 7) rfl (by decide) ?_
    refine o_iloadN X0 hx (hb hby d2_7) rfl ?_
    refine o_ifYes X0 hx (hb hby d2_8) (pc' := 31) rfl (by decide) ((if0 _ _).trans (tlt (by decide : (-1 : Int32) < (0 : Int32))).1) ?_
    refine o_lloadN X0 hx (hb hby d2_31) rfl ?_
    exact k_
  obtain ⟨fs, hr, hrun, hended, hW, hsame⟩ := X0.leave (v := some (.long ((0 : Int64) ||| ((w0 &&& (255 : Int32)).toInt64)))) (fun h => by rw [Bd.returns] at h; cases h)
  refine ⟨_, _, pre0 _ (go5 _ ?_), hrun, hended, _, _, rfl, ?_, ⟨_, rfl⟩, hW, hsame.mono (by decide) (by decide)⟩
  · skip
    exact retOut X0 hx Bd.returns rfl (Or.inr (Or.inl ⟨rfl, rfl, _, rfl⟩)) (hb hby d2_32) hr
  · show Q2_1 Z a1 k1 w0 h0 n0 _ s₁.heap _
    rw [e0]
    exact ⟨(congrArg (fun z => some (Value.long z)) (show ((0 : Int64) ||| ((w0 &&& (255 : Int32)).toInt64)) = f2_1 w0 from by unfold f2_1; rfl)), N0, rfl⟩

theorem d1_19 : decode method_2_code 19 = .ok (.aload_n 3, 1) := by decide +kernel
theorem d1_20 : decode method_2_code 20 = .ok (.iconst 1, 1) := by decide +kernel
theorem d1_21 : decode method_2_code 21 = .ok (.lload_n 0, 1) := by decide +kernel
theorem d1_22 : decode method_2_code 22 = .ok (.bipush 8, 2) := by decide +kernel
theorem d1_24 : decode method_2_code 24 = .ok (.lushr, 1) := by decide +kernel
theorem d1_25 : decode method_2_code 25 = .ok (.l2i, 1) := by decide +kernel
theorem d1_26 : decode method_2_code 26 = .ok (.i2b, 1) := by decide +kernel
theorem d1_27 : decode method_2_code 27 = .ok (.bastore, 1) := by decide +kernel
theorem pn_1_2 : plainName "com/example/ledgerline/ledgerline/compression/BlockInputStreamLittleEndianPinLaw" = true := by first | (simp [plainName, overriddenIn]; done) | decide +kernel
theorem ef_1_2 (m : MethodId) (x0 : Int64) : entryFrame m #[(.long x0), (.int (2 : Int32))] 4 = mkF m 0 #[vj x0, .second, vi (2 : Int32), .unset] [] := by first | (simp [entryFrame, mkF, argsToLocals, Value.category]; done) | rfl
def Q1_2 (Z : State) (q1 : Int64) (h0 : Heap) (n0 : Nat) (v : Option Value) (h : Heap) (L : List Loc) : Prop := ∃ b : Addr, ∃ kb : ClassId, v = some (.ref b) ∧ Fr n0 L ∧ Keep h0 h [] ∧ h0.size ≤ b ∧ Arv Z h b kb .byte (2 : Int32) [(.int ((q1.toInt32).toInt8.toInt32)), (.int ((((q1.toUInt64 >>> ((8 : Int32) &&& 0x3f).toInt64.toUInt64).toInt64).toInt32).toInt8.toInt32))] (.int (0 : Int32))
set_option maxRecDepth 65536 in
set_option maxHeartbeats 40000000 in
theorem rm1_2 (l : Launch) (Z : State) (a0 : Array Value) (hw : ∀ d ∈ tables_1, d.before a0 Z = true) (ws : List Jvm.Cond) (q1 : Int64) (h0 : Heap) (n0 : Nat) (Z0 : n0 ≤ h0.size) :
    MetFree l y_0 (head1 (Jvm.Cond.code y_0 method_2_code 4 (some (.array .byte)) :: ws) ({ frames := 0, cells := 1, slots := 2, locals := 0 } : Room)) (fun a U => a = #[(.long q1), (.int (2 : Int32))] ∧ Z.Warmed39 U.vm ∧ U.heap = h0) (fun _ _ _ _ _ => True) (fun _ U o U' => ∃ v L, o = .returned v ∧ Q1_2 Z q1 h0 n0 v U'.heap L ∧ FrameEnd U o U' L ({ frames := 0, cells := 1, slots := 2, locals := 0 } : Room).cells ({ frames := 0, cells := 1, slots := 2, locals := 0 } : Room).slots) := by
  refine MetFree.of_bodySF (plainFor_of_name pn_1_2) hisR ?_
  intro p e s m args below meth c s₁ Bd hml0 hP hK
  obtain ⟨rfl, hZ, hh⟩ := hP
  have hx := Bd.exec
  have hby := Bd.bytes
  have hml : c.maxLocals = 4 := hml0
  have hown : s.vm.findClass "com/example/ledgerline/ledgerline/compression/BlockInputStreamLittleEndianPinLaw" = some m.cls := findClass_of_methodNamed Bd.named
  have hnm := (name_of_methodNamed Bd.named Bd.method).1
  have X0 : Stand p l e ({ frames := 0, cells := 1, slots := 2, locals := 0 } : Room) s m #[(.long q1), (.int (2 : Int32))] below meth c s₁ [] 0 0 := Stand.of_body Bd
  have e0 : s₁.heap = h0 := by rw [← hh, Bd.state]; rfl
  have N0 := Fr.nil n0
  have K0 : Keep h0 h0 [] := Keep.refl h0 []
  obtain ⟨F0, hF0⟩ : ∃ F : JFrame, F = entryFrame m #[(.long q1), (.int (2 : Int32))] 4 := ⟨_, rfl⟩
  have pre0 : ∀ t, Steps p.tables e below (s₁.setTop F0) t → Steps p.tables e below (s₁.setTop (entryFrame m #[(.long q1), (.int (2 : Int32))] 4)) t := fun t k => hF0 ▸ k
  have go0 : Go p e below s₁ F0 s₁ (mkF m 0 #[vj q1, .second, vi (2 : Int32), .unset] []) := fun t k => castTop (hF0.trans (ef_1_2 m q1)) k
  have go1 : Go p e below s₁ F0 s₁ (mkF m 1 #[vj q1, .second, vi (2 : Int32), .unset] [(.int (2 : Int32))]) := by
    intro t_ k_
    refine go0 t_ ?_
    refine o_iloadN X0 hx (hb hby d1_0) rfl ?_
    exact k_
  obtain ⟨T2, h2, k2, X2, e2, E2, A2, st2⟩ := newP X0 hx hZ (own_w hw 5 rfl) e0 (g := (mkF m 1 #[vj q1, .second, vi (2 : Int32), .unset] [(.int (2 : Int32))])) rfl (hb hby d1_1) rfl (by decide) (cap := 2) (by decide) (by decide) (by decide) (by decide)
  obtain ⟨b2, gz2⟩ : ∃ z, z = h0.size := ⟨_, rfl⟩
  rw [← gz2] at A2 st2
  have g_b2 : n0 ≤ b2 := Nat.le_trans Z0 (Nat.le_of_eq gz2.symm)
  have sz_b2 : h0.size ≤ b2 := Nat.le_trans K0.1 (Nat.le_of_eq gz2.symm)
  have K3 : Keep h0 h2 [] := K0.ext E2
  have Z3 : n0 ≤ h2.size := Nat.le_trans Z0 E2.1
  have V2 : Arv Z h2 b2 k2 .byte (2 : Int32) [(.int (0 : Int32)), (.int (0 : Int32))] (.int (0 : Int32)) := (Arv.new A2 (by decide)).pad (pad_rep [] (.int (0 : Int32)) 2)
  have go4 : Go p e below s₁ F0 T2 (mkF m 3 #[vj q1, .second, vi (2 : Int32), .unset] [(.ref b2)]) := fun t_ k_ => go1 t_ (st2 t_ k_)
  have go5 : Go p e below s₁ F0 T2 (mkF m 13 #[vj q1, .second, vi (2 : Int32), vr b2] [(.int ((q1.toInt32).toInt8.toInt32)), (.int (0 : Int32)), (.ref b2)]) := by
    intro t_ k_
    refine go4 t_ ?_
    refine o_astoreN X2 hx (hb hby d1_3) rfl (L' := #[vj q1, .second, vi (2 : Int32), vr b2]) rfl ?_
    refine o_iloadN X2 hx (hb hby d1_4) rfl ?_
    refine o_ifNo X2 hx (hb hby d1_5) ((if0 _ _).trans (tlt (by decide : (0 : Int32) < (2 : Int32))).2.2.2) ?_
    refine o_aloadN X2 hx (hb hby d1_8) rfl rfl ?_
    refine o_iconst X2 hx (hb hby d1_9) (v := 0) rfl ?_
    refine o_lloadN X2 hx (hb hby d1_10) rfl ?_
    refine o_l2i X2 hx (hb hby d1_11) ?_
    refine o_i2b X2 hx (hb hby d1_12) ?_
    exact k_
  obtain ⟨cl6, Ar6, q6, Sz6, Nn6, Hs6, G6⟩ := id V2
  have hin6 : ¬ ((0 : Int32) < 0 ∨ cl6.slots.size ≤ ((0 : Int32)).toNatClampNeg) := inb_of Sz6 ⟨by decide, by decide⟩
  obtain ⟨T6, h6, X6, e6, W6, st6⟩ := stB X2 hx hZ e2 Ar6 (j := (0 : Int32)) hin6 (g := (mkF m 13 #[vj q1, .second, vi (2 : Int32), vr b2] [(.int ((q1.toInt32).toInt8.toInt32)), (.int (0 : Int32)), (.ref b2)])) rfl rfl (hb hby d1_13)
  rw [own_nar_byte] at W6
  have V6 : Arv Z h6 b2 k2 .byte (2 : Int32) [(.int ((q1.toInt32).toInt8.toInt32)), (.int (0 : Int32))] (.int (0 : Int32)) := Arv.set Ar6 q6 Sz6 Nn6 Hs6 G6 (fits_nar_byte _) W6 0 rfl (Nat.le_of_ble_eq_true rfl)
  have K7 : Keep h0 h6 [] := K3.wr W6 (Or.inr sz_b2)
  have Z7 : n0 ≤ h6.size := Nat.le_trans Z3 (Keep.of_wr W6).1
  have N6 := Fr.snoc X6 N0 g_b2
  have go8 : Go p e below s₁ F0 T6 (mkF m 14 #[vj q1, .second, vi (2 : Int32), vr b2] []) := fun t_ k_ => go5 t_ (st6 t_ k_)
  have go9 : Go p e below s₁ F0 T6 (mkF m 27 #[vj q1, .second, vi (2 : Int32), vr b2] [(.int ((((q1.toUInt64 >>> ((8 : Int32) &&& 0x3f).toInt64.toUInt64).toInt64).toInt32).toInt8.toInt32)), (.int (1 : Int32)), (.ref b2)]) := by
    intro t_ k_
    refine go8 t_ ?_
    refine o_iloadN X6 hx (hb hby d1_14) rfl ?_
    refine o_iconst X6 hx (hb hby d1_15) (v := 1) rfl ?_
    refine o_icmpNo X6 hx (hb hby d1_16) (tlt (by decide : (1 : Int32) < (2 : Int32))).2.2.2 ?_
    refine o_aloadN X6 hx (hb hby d1_19) rfl rfl ?_
    refine o_iconst X6 hx (hb hby d1_20) (v := 1) rfl ?_
    refine o_lloadN X6 hx (hb hby d1_21) rfl ?_
    refine o_bipush X6 hx (hb hby d1_22) (v := 8) rfl ?_
    refine o_lushr X6 hx (hb hby d1_24) ?_
    refine o_l2i X6 hx (hb hby d1_25) ?_
    refine o_i2b X6 hx (hb hby d1_26) ?_
    exact k_
  obtain ⟨cl10, Ar10, q10, Sz10, Nn10, Hs10, G10⟩ := id V6
  have hin10 : ¬ ((1 : Int32) < 0 ∨ cl10.slots.size ≤ ((1 : Int32)).toNatClampNeg) := inb_of Sz10 ⟨by decide, by decide⟩
  obtain ⟨T10, h10, X10, e10, W10, st10⟩ := stB X6 hx hZ e6 Ar10 (j := (1 : Int32)) hin10 (g := (mkF m 27 #[vj q1, .second, vi (2 : Int32), vr b2] [(.int ((((q1.toUInt64 >>> ((8 : Int32) &&& 0x3f).toInt64.toUInt64).toInt64).toInt32).toInt8.toInt32)), (.int (1 : Int32)), (.ref b2)])) rfl rfl (hb hby d1_27)
  rw [own_nar_byte] at W10
  have V10 : Arv Z h10 b2 k2 .byte (2 : Int32) [(.int ((q1.toInt32).toInt8.toInt32)), (.int ((((q1.toUInt64 >>> ((8 : Int32) &&& 0x3f).toInt64.toUInt64).toInt64).toInt32).toInt8.toInt32))] (.int (0 : Int32)) := Arv.set Ar10 q10 Sz10 Nn10 Hs10 G10 (fits_nar_byte _) W10 1 rfl (Nat.le_of_ble_eq_true rfl)
  have K11 : Keep h0 h10 [] := K7.wr W10 (Or.inr sz_b2)
  have Z11 : n0 ≤ h10.size := Nat.le_trans Z7 (Keep.of_wr W10).1
  have N10 := Fr.snoc X10 N6 g_b2
  have go12 : Go p e below s₁ F0 T10 (mkF m 28 #[vj q1, .second, vi (2 : Int32), vr b2] []) := fun t_ k_ => go9 t_ (st10 t_ k_)
  have go13 : Go p e below s₁ F0 T10 (mkF m 117 #[vj q1, .second, vi (2 : Int32), vr b2] [(.ref b2)]) := by
    intro t_ k_
    refine go12 t_ ?_
    refine o_iloadN X10 hx (hb hby d1_28) rfl ?_
    refine o_iconst X10 hx (hb hby d1_29) (v := 2) rfl ?_
    refine o_icmpYes X10 hx (hb hby d1_30) (pc' := 42) rfl (by decide) (flt (by decide : ¬ ((2 : Int32) < (2 : Int32)))).2.2.2 ?_
    refine o_iloadN X10 hx (hb hby d1_42) rfl ?_
    refine o_iconst X10 hx (hb hby d1_43) (v := 3) rfl ?_
    refine o_icmpYes X10 hx (hb hby d1_44) (pc' := 56) rfl (by decide) (flt (by decide : ¬ ((3 : Int32) < (2 : Int32)))).2.2.2 ?_
    refine o_iloadN X10 hx (hb hby d1_56) rfl ?_
    refine o_iconst X10 hx (hb hby d1_57) (v := 4) rfl ?_
    refine o_icmpYes X10 hx (hb hby d1_58) (pc' := 70) rfl (by decide) (flt (by decide : ¬ ((4 : Int32) < (2 : Int32)))).2.2.2 ?_
    refine o_iloadN X10 hx (hb hby d1_70) rfl ?_
    refine o_iconst X10 hx (hb hby d1_71) (v := 5) rfl ?_
    refine o_icmpYes X10 hx (hb hby d1_72) (pc' := 84) rfl (by decide) (flt (by decide : ¬ ((5 : Int32) < (2 : Int32)))).2.2.2 ?_
    refine o_iloadN X10 hx (hb hby d1_84) rfl ?_
    refine o_bipush X10 hx (hb hby d1_85) (v := 6) rfl ?_
    refine o_icmpYes X10 hx (hb hby d1_87) (pc' := 100) rfl (by decide) (flt (by decide : ¬ ((6 : Int32) < (2 : Int32)))).2.2.2 ?_
    refine o_iloadN X10 hx (hb hby d1_100) rfl ?_
    refine o_bipush X10 hx (hb hby d1_101) (v := 7) rfl ?_
    refine o_icmpYes X10 hx (hb hby d1_103) (pc' := 116) rfl (by decide) (flt (by decide : ¬ ((7 : Int32) < (2 : Int32)))).2.2.2 ?_
    refine o_aloadN X10 hx (hb hby d1_116) rfl rfl ?_
    exact k_
  obtain ⟨fs, hr, hrun, hended, hW, hsame⟩ := X10.leave (v := some (.ref b2)) (fun h => by rw [Bd.returns] at h; cases h)
  refine ⟨_, _, pre0 _ (go13 _ ?_), hrun, hended, _, _, rfl, ?_, ⟨_, rfl⟩, hW, hsame.mono (by decide) (by decide)⟩
  · skip
    exact retOut X10 hx Bd.returns rfl (Or.inr (Or.inr (Or.inr (Or.inr ⟨rfl, rfl, rfl⟩)))) (hb hby d1_117) hr
  · show Q1_2 Z q1 h0 n0 _ T10.heap _
    rw [e10]
    exact ⟨b2, k2, rfl, N10, K11, sz_b2, V10⟩

theorem pn_2_2 : plainName "com/example/ledgerline/ledgerline/compression/BlockInputStream" = true := by first | (simp [plainName, overriddenIn]; done) | decide +kernel
theorem ef_2_2 (m : MethodId) (x0 : Addr) : entryFrame m #[(.ref x0)] 4 = mkF m 0 #[vr x0, .unset, .unset, .unset] [] := by first | (simp [entryFrame, mkF, argsToLocals, Value.category]; done) | rfl
def f2_2 (w0 : Int32) (w1 : Int32) : Int64 := ((((0 : Int64) ||| ((w1 &&& (255 : Int32)).toInt64)) <<< ((8 : Int32) &&& 0x3f).toInt64) ||| ((w0 &&& (255 : Int32)).toInt64))
def Q2_2 (Z : State) (a1 : Addr) (k1 : ClassId) (w0 : Int32) (w1 : Int32) (h0 : Heap) (n0 : Nat) (v : Option Value) (h : Heap) (L : List Loc) : Prop := v = some (.long (f2_2 w0 w1)) ∧ Fr n0 L ∧ h = h0
set_option maxRecDepth 65536 in
set_option maxHeartbeats 40000000 in
theorem rm2_2 (l : Launch) (Z : State) (a0 : Array Value) (hw : ∀ d ∈ tables_1, d.before a0 Z = true) (ws : List Jvm.Cond) (a1 : Addr) (k1 : ClassId) (w0 : Int32) (w1 : Int32) (h0 : Heap) (n0 : Nat) (Z0 : n0 ≤ h0.size) (V0 : Arv Z h0 a1 k1 .byte (2 : Int32) [(.int w0), (.int w1)] (.int (0 : Int32))) :
    MetFree l y_1 (head1 (Jvm.Cond.code y_1 prog_3_method_9_code 4 (some .long) :: ws) ({ frames := 0, cells := 0, slots := 0, locals := 0 } : Room)) (fun a U => a = #[(.ref a1)] ∧ Z.Warmed39 U.vm ∧ U.heap = h0) (fun _ _ _ _ _ => True) (fun _ U o U' => ∃ v L, o = .returned v ∧ Q2_2 Z a1 k1 w0 w1 h0 n0 v U'.heap L ∧ FrameEnd U o U' L ({ frames := 0, cells := 0, slots := 0, locals := 0 } : Room).cells ({ frames := 0, cells := 0, slots := 0, locals := 0 } : Room).slots) := by
  refine MetFree.of_bodySF (plainFor_of_name pn_2_2) hisR ?_
  intro p e s m args below meth c s₁ Bd hml0 hP hK
  obtain ⟨rfl, hZ, hh⟩ := hP
  have hx := Bd.exec
  have hby := Bd.bytes
  have hml : c.maxLocals = 4 := hml0
  have hown : s.vm.findClass "com/example/ledgerline/ledgerline/compression/BlockInputStream" = some m.cls := findClass_of_methodNamed Bd.named
  have hnm := (name_of_methodNamed Bd.named Bd.method).1
  have X0 : Stand p l e ({ frames := 0, cells := 0, slots := 0, locals := 0 } : Room) s m #[(.ref a1)] below meth c s₁ [] 0 0 := Stand.of_body Bd
  have e0 : s₁.heap = h0 := by rw [← hh, Bd.state]; rfl
  have N0 := Fr.nil n0
  obtain ⟨F0, hF0⟩ : ∃ F : JFrame, F = entryFrame m #[(.ref a1)] 4 := ⟨_, rfl⟩
  have pre0 : ∀ t, Steps p.tables e below (s₁.setTop F0) t → Steps p.tables e below (s₁.setTop (entryFrame m #[(.ref a1)] 4)) t := fun t k => hF0 ▸ k
  have go0 : Go p e below s₁ F0 s₁ (mkF m 0 #[vr a1, .unset, .unset, .unset] []) := fun t k => castTop (hF0.trans (ef_2_2 m a1)) k
  have go1 : Go p e below s₁ F0 s₁ (mkF m 3 #[vr a1, vj (0 : Int64), .second, .unset] [(.ref a1)]) := by
    intro t_ k_
    refine go0 t_ ?_
    refine o_lconst X0 hx (hb hby d2_0) (v := 0) rfl ?_
    refine o_lstoreN X0 hx (hb hby d2_1) (L' := #[vr a1, vj (0 : Int64), .second, .unset]) rfl ?_
    refine o_aloadN X0 hx (hb hby d2_2) rfl rfl ?_
    exact k_
  obtain ⟨cl2, Ar2, -, Sz2, Nn2, -, -⟩ := id V0
  have go3 : Go p e below s₁ F0 s₁ (mkF m 17 #[vr a1, vj (0 : Int64), .second, vi (1 : Int32)] [(.int (1 : Int32)), (.ref a1), (.long (0 : Int64))]) := by
    intro t_ k_
    refine go1 t_ ?_
    refine o_len X0 hx hZ e0 Ar2 Sz2 Nn2 (hb hby d2_3) ?_
    refine o_iconst X0 hx (hb hby d2_4) (v := 1) rfl ?_
    refine o_isubE X0 hx (hb hby d2_5) (v := 1) rfl ?_
    refine o_istoreN X0 hx (hb hby d2_6) (L' := #[vr a1, vj (0 : Int64), .second, vi (1 : Int32)]) rfl ?_
    refine o_iloadN X0 hx (hb hby d2_7) rfl ?_
    refine o_ifNo X0 hx (hb hby d2_8) ((if0 _ _).trans (flt (by decide : ¬ ((1 : Int32) < (0 : Int32)))).1) ?_
    refine o_lloadN X0 hx (hb hby d2_11) rfl ?_
    refine o_bipush X0 hx (hb hby d2_12) (v := 8) rfl ?_
    refine o_lshlE X0 hx (hb hby d2_14) (v := 0) rfl ?_
    refine o_aloadN X0 hx (hb hby d2_15) rfl rfl ?_
    refine o_iloadN X0 hx (hb hby d2_16) rfl ?_
    exact k_
  obtain ⟨cl4, Ar4, -, Sz4, Nn4, Hs4, -⟩ := id V0
  have hin4 : ¬ ((1 : Int32) < 0 ∨ cl4.slots.size ≤ ((1 : Int32)).toNatClampNeg) := inb_of Sz4 ⟨by decide, by decide⟩
  have hat4 : cl4.slots[((1 : Int32)).toNatClampNeg]? = some (.int w1) := Hs4.at hin4 rfl
  have go5 : Go p e below s₁ F0 s₁ (mkF m 17 #[vr a1, vj ((0 : Int64) ||| ((w1 &&& (255 : Int32)).toInt64)), .second, vi (0 : Int32)] [(.int (0 : Int32)), (.ref a1), (.long (((0 : Int64) ||| ((w1 &&& (255 : Int32)).toInt64)) <<< ((8 : Int32) &&& 0x3f).toInt64))]) := by
    intro t_ k_
    refine go3 t_ ?_
    refine o_baload X0 hx hZ e0 Ar4 hin4 hat4 (hb hby d2_17) ?_
    refine o_sipush X0 hx (hb hby d2_18) (v := 255) rfl ?_
    refine o_iand X0 hx (hb hby d2_21) ?_
    refine o_i2l X0 hx (hb hby d2_22) ?_
    refine o_lor X0 hx (hb hby d2_23) ?_
    refine o_lstoreN X0 hx (hb hby d2_24) (L' := #[vr a1, vj ((0 : Int64) ||| ((w1 &&& (255 : Int32)).toInt64)), .second, vi (1 : Int32)]) rfl ?_
    refine o_iinc X0 hx (hb hby d2_25) rfl (L' := #[vr a1, vj ((0 : Int64) ||| ((w1 &&& (255 : Int32)).toInt64)), .second, vi (0 : Int32)]) rfl ?_
    refine o_goto X0 hx (hb hby d2_28) (pc' := 7) rfl (by decide) ?_
    refine o_iloadN X0 hx (hb hby d2_7) rfl ?_
    refine o_ifNo X0 hx (hb hby d2_8) ((if0 _ _).trans (flt (by decide : ¬ ((0 : Int32) < (0 : Int32)))).1) ?_
    refine o_lloadN X0 hx (hb hby d2_11) rfl ?_
    refine o_bipush X0 hx (hb hby d2_12) (v := 8) rfl ?_
    refine o_lshl X0 hx (hb hby d2_14) ?_
    refine o_aloadN X0 hx (hb hby d2_15) rfl rfl ?_
    refine o_iloadN X0 hx (hb hby d2_16) rfl ?_
    exact k_
  obtain ⟨cl6, Ar6, -, Sz6, Nn6, Hs6, -⟩ := id V0
  have hin6 : ¬ ((0 : Int32) < 0 ∨ cl6.slots.size ≤ ((0 : Int32)).toNatClampNeg) := inb_of Sz6 ⟨by decide, by decide⟩
  have hat6 : cl6.slots[((0 : Int32)).toNatClampNeg]? = some (.int w0) := Hs6.at hin6 rfl
  have go7 : Go p e below s₁ F0 s₁ (mkF m 32 #[vr a1, vj ((((0 : Int64) ||| ((w1 &&& (255 : Int32)).toInt64)) <<< ((8 : Int32) &&& 0x3f).toInt64) ||| ((w0 &&& (255 : Int32)).toInt64)), .second, vi (-1 : Int32)] [(.long ((((0 : Int64) ||| ((w1 &&& (255 : Int32)).toInt64)) <<< ((8 : Int32) &&& 0x3f).toInt64) ||| ((w0 &&& (255 : Int32)).toInt64)))]) := by
    intro t_ k_
    refine go5 t_ ?_
    refine o_baload X0 hx hZ e0 Ar6 hin6 hat6 (hb hby d2_17) ?_
    refine o_sipush X0 hx (hb hby d2_18) (v := 255) rfl ?_
    refine o_iand X0 hx (hb hby d2_21) ?_
    refine o_i2l X0 hx (hb hby d2_22) ?_
    refine o_lor X0 hx (hb hby d2_23) ?_
    refine o_lstoreN X0 hx (hb hby d2_24) (L' := #[vr a1, vj ((((0 : Int64) ||| ((w1 &&& (255 : Int32)).toInt64)) <<< ((8 : Int32) &&& 0x3f).toInt64) ||| ((w0 &&& (255 : Int32)).toInt64)), .second, vi (0 : Int32)]) rfl ?_
    refine o_iinc X0 hx (hb hby d2_25) rfl (L' := #[vr a1, vj ((((0 : Int64) ||| ((w1 &&& (255 : Int32)).toInt64)) <<< ((8 : Int32) &&& 0x3f).toInt64) ||| ((w0 &&& (255 : Int32)).toInt64)), .second, vi (-1 : Int32)]) rfl ?_
    refine o_goto X0 hx (hb hby d2_28) (pc' := 7) rfl (by decide) ?_
    refine o_iloadN X0 hx (hb hby d2_7) rfl ?_
    refine o_ifYes X0 hx (hb hby d2_8) (pc' := 31) rfl (by decide) ((if0 _ _).trans (tlt (by decide : (-1 : Int32) < (0 : Int32))).1) ?_
    refine o_lloadN X0 hx (hb hby d2_31) rfl ?_
    exact k_
  obtain ⟨fs, hr, hrun, hended, hW, hsame⟩ := X0.leave (v := some (.long ((((0 : Int64) ||| ((w1 &&& (255 : Int32)).toInt64)) <<< ((8 : Int32) &&& 0x3f).toInt64) ||| ((w0 &&& (255 : Int32)).toInt64)))) (fun h => by rw [Bd.returns] at h; cases h)
  refine ⟨_, _, pre0 _ (go7 _ ?_), hrun, hended, _, _, rfl, ?_, ⟨_, rfl⟩, hW, hsame.mono (by decide) (by decide)⟩
  · skip
    exact retOut X0 hx Bd.returns rfl (Or.inr (Or.inl ⟨rfl, rfl, _, rfl⟩)) (hb hby d2_32) hr
  · show Q2_2 Z a1 k1 w0 w1 h0 n0 _ s₁.heap _
    rw [e0]
    exact ⟨(congrArg (fun z => some (Value.long z)) (show ((((0 : Int64) ||| ((w1 &&& (255 : Int32)).toInt64)) <<< ((8 : Int32) &&& 0x3f).toInt64) ||| ((w0 &&& (255 : Int32)).toInt64)) = f2_2 w0 w1 from by unfold f2_2; rfl)), N0, rfl⟩

theorem d1_33 : decode method_2_code 33 = .ok (.aload_n 3, 1) := by decide +kernel
theorem d1_34 : decode method_2_code 34 = .ok (.iconst 2, 1) := by decide +kernel
theorem d1_35 : decode method_2_code 35 = .ok (.lload_n 0, 1) := by decide +kernel
theorem d1_36 : decode method_2_code 36 = .ok (.bipush 16, 2) := by decide +kernel
theorem d1_38 : decode method_2_code 38 = .ok (.lushr, 1) := by decide +kernel
theorem d1_39 : decode method_2_code 39 = .ok (.l2i, 1) := by decide +kernel
theorem d1_40 : decode method_2_code 40 = .ok (.i2b, 1) := by decide +kernel
theorem d1_41 : decode method_2_code 41 = .ok (.bastore, 1) := by decide +kernel
theorem pn_1_3 : plainName "com/example/ledgerline/ledgerline/compression/BlockInputStreamLittleEndianPinLaw" = true := by first | (simp [plainName, overriddenIn]; done) | decide +kernel
theorem ef_1_3 (m : MethodId) (x0 : Int64) : entryFrame m #[(.long x0), (.int (3 : Int32))] 4 = mkF m 0 #[vj x0, .second, vi (3 : Int32), .unset] [] := by first | (simp [entryFrame, mkF, argsToLocals, Value.category]; done) | rfl
def Q1_3 (Z : State) (q1 : Int64) (h0 : Heap) (n0 : Nat) (v : Option Value) (h : Heap) (L : List Loc) : Prop := ∃ b : Addr, ∃ kb : ClassId, v = some (.ref b) ∧ Fr n0 L ∧ Keep h0 h [] ∧ h0.size ≤ b ∧ Arv Z h b kb .byte (3 : Int32) [(.int ((q1.toInt32).toInt8.toInt32)), (.int ((((q1.toUInt64 >>> ((8 : Int32) &&& 0x3f).toInt64.toUInt64).toInt64).toInt32).toInt8.toInt32)), (.int ((((q1.toUInt64 >>> ((16 : Int32) &&& 0x3f).toInt64.toUInt64).toInt64).toInt32).toInt8.toInt32))] (.int (0 : Int32))
set_option maxRecDepth 65536 in
set_option maxHeartbeats 40000000 in
theorem rm1_3 (l : Launch) (Z : State) (a0 : Array Value) (hw : ∀ d ∈ tables_1, d.before a0 Z = true) (ws : List Jvm.Cond) (q1 : Int64) (h0 : Heap) (n0 : Nat) (Z0 : n0 ≤ h0.size) :
    MetFree l y_0 (head1 (Jvm.Cond.code y_0 method_2_code 4 (some (.array .byte)) :: ws) ({ frames := 0, cells := 1, slots := 3, locals := 0 } : Room)) (fun a U => a = #[(.long q1), (.int (3 : Int32))] ∧ Z.Warmed39 U.vm ∧ U.heap = h0) (fun _ _ _ _ _ => True) (fun _ U o U' => ∃ v L, o = .returned v ∧ Q1_3 Z q1 h0 n0 v U'.heap L ∧ FrameEnd U o U' L ({ frames := 0, cells := 1, slots := 3, locals := 0 } : Room).cells ({ frames := 0, cells := 1, slots := 3, locals := 0 } : Room).slots) := by
  refine MetFree.of_bodySF (plainFor_of_name pn_1_3) hisR ?_
  intro p e s m args below meth c s₁ Bd hml0 hP hK
  obtain ⟨rfl, hZ, hh⟩ := hP
  have hx := Bd.exec
  have hby := Bd.bytes
  have hml : c.maxLocals = 4 := hml0
  have hown : s.vm.findClass "com/example/ledgerline/ledgerline/compression/BlockInputStreamLittleEndianPinLaw" = some m.cls := findClass_of_methodNamed Bd.named
  have hnm := (name_of_methodNamed Bd.named Bd.method).1
  have X0 : Stand p l e ({ frames := 0, cells := 1, slots := 3, locals := 0 } : Room) s m #[(.long q1), (.int (3 : Int32))] below meth c s₁ [] 0 0 := Stand.of_body Bd
  have e0 : s₁.heap = h0 := by rw [← hh, Bd.state]; rfl
  have N0 := Fr.nil n0
  have K0 : Keep h0 h0 [] := Keep.refl h0 []
  obtain ⟨F0, hF0⟩ : ∃ F : JFrame, F = entryFrame m #[(.long q1), (.int (3 : Int32))] 4 := ⟨_, rfl⟩
  have pre0 : ∀ t, Steps p.tables e below (s₁.setTop F0) t → Steps p.tables e below (s₁.setTop (entryFrame m #[(.long q1), (.int (3 : Int32))] 4)) t := fun t k => hF0 ▸ k
  have go0 : Go p e below s₁ F0 s₁ (mkF m 0 #[vj q1, .second, vi (3 : Int32), .unset] []) := fun t k => castTop (hF0.trans (ef_1_3 m q1)) k
  have go1 : Go p e below s₁ F0 s₁ (mkF m 1 #[vj q1, .second, vi (3 : Int32), .unset] [(.int (3 : Int32))]) := by
    intro t_ k_
    refine go0 t_ ?_
    refine o_iloadN X0 hx (hb hby d1_0) rfl ?_
    exact k_
  obtain ⟨T2, h2, k2, X2, e2, E2, A2, st2⟩ := newP X0 hx hZ (own_w hw 5 rfl) e0 (g := (mkF m 1 #[vj q1, .second, vi (3 : Int32), .unset] [(.int (3 : Int32))])) rfl (hb hby d1_1) rfl (by decide) (cap := 3) (by decide) (by decide) (by decide) (by decide)
  obtain ⟨b2, gz2⟩ : ∃ z, z = h0.size := ⟨_, rfl⟩
  rw [← gz2] at A2 st2
  have g_b2 : n0 ≤ b2 := Nat.le_trans Z0 (Nat.le_of_eq gz2.symm)
  have sz_b2 : h0.size ≤ b2 := Nat.le_trans K0.1 (Nat.le_of_eq gz2.symm)
  have K3 : Keep h0 h2 [] := K0.ext E2
  have Z3 : n0 ≤ h2.size := Nat.le_trans Z0 E2.1
  have V2 : Arv Z h2 b2 k2 .byte (3 : Int32) [(.int (0 : Int32)), (.int (0 : Int32)), (.int (0 : Int32))] (.int (0 : Int32)) := (Arv.new A2 (by decide)).pad (pad_rep [] (.int (0 : Int32)) 3)
  have go4 : Go p e below s₁ F0 T2 (mkF m 3 #[vj q1, .second, vi (3 : Int32), .unset] [(.ref b2)]) := fun t_ k_ => go1 t_ (st2 t_ k_)
  have go5 : Go p e below s₁ F0 T2 (mkF m 13 #[vj q1, .second, vi (3 : Int32), vr b2] [(.int ((q1.toInt32).toInt8.toInt32)), (.int (0 : Int32)), (.ref b2)]) := by
    intro t_ k_
    refine go4 t_ ?_
    refine o_astoreN X2 hx (hb hby d1_3) rfl (L' := #[vj q1, .second, vi (3 : Int32), vr b2]) rfl ?_
    refine o_iloadN X2 hx (hb hby d1_4) rfl ?_
    refine o_ifNo X2 hx (hb hby d1_5) ((if0 _ _).trans (tlt (by decide : (0 : Int32) < (3 : Int32))).2.2.2) ?_
    refine o_aloadN X2 hx (hb hby d1_8) rfl rfl ?_
    refine o_iconst X2 hx (hb hby d1_9) (v := 0) rfl ?_
    refine o_lloadN X2 hx (hb hby d1_10) rfl ?_
    refine o_l2i X2 hx (hb hby d1_11) ?_
    refine o_i2b X2 hx (hb hby d1_12) ?_
    exact k_
  obtain ⟨cl6, Ar6, q6, Sz6, Nn6, Hs6, G6⟩ := id V2
  have hin6 : ¬ ((0 : Int32) < 0 ∨ cl6.slots.size ≤ ((0 : Int32)).toNatClampNeg) := inb_of Sz6 ⟨by decide, by decide⟩
  obtain ⟨T6, h6, X6, e6, W6, st6⟩ := stB X2 hx hZ e2 Ar6 (j := (0 : Int32)) hin6 (g := (mkF m 13 #[vj q1, .second, vi (3 : Int32), vr b2] [(.int ((q1.toInt32).toInt8.toInt32)), (.int (0 : Int32)), (.ref b2)])) rfl rfl (hb hby d1_13)
  rw [own_nar_byte] at W6
  have V6 : Arv Z h6 b2 k2 .byte (3 : Int32) [(.int ((q1.toInt32).toInt8.toInt32)), (.int (0 : Int32)), (.int (0 : Int32))] (.int (0 : Int32)) := Arv.set Ar6 q6 Sz6 Nn6 Hs6 G6 (fits_nar_byte _) W6 0 rfl (Nat.le_of_ble_eq_true rfl)
  have K7 : Keep h0 h6 [] := K3.wr W6 (Or.inr sz_b2)
  have Z7 : n0 ≤ h6.size := Nat.le_trans Z3 (Keep.of_wr W6).1
  have N6 := Fr.snoc X6 N0 g_b2
  have go8 : Go p e below s₁ F0 T6 (mkF m 14 #[vj q1, .second, vi (3 : Int32), vr b2] []) := fun t_ k_ => go5 t_ (st6 t_ k_)
  have go9 : Go p e below s₁ F0 T6 (mkF m 27 #[vj q1, .second, vi (3 : Int32), vr b2] [(.int ((((q1.toUInt64 >>> ((8 : Int32) &&& 0x3f).toInt64.toUInt64).toInt64).toInt32).toInt8.toInt32)), (.int (1 : Int32)), (.ref b2)]) := by
    intro t_ k_
    refine go8 t_ ?_
    refine o_iloadN X6 hx (hb hby d1_14) rfl ?_
    refine o_iconst X6 hx (hb hby d1_15) (v := 1) rfl ?_
    refine o_icmpNo X6 hx (hb hby d1_16) (tlt (by decide : (1 : Int32) < (3 : Int32))).2.2.2 ?_
    refine o_aloadN X6 hx (hb hby d1_19) rfl rfl ?_
    refine o_iconst X6 hx (hb hby d1_20) (v := 1) rfl ?_
    refine o_lloadN X6 hx (hb hby d1_21) rfl ?_
    refine o_bipush X6 hx (hb hby d1_22) (v := 8) rfl ?_
    refine o_lushr X6 hx (hb hby d1_24) ?_
    refine o_l2i X6 hx (hb hby d1_25) ?_
    refine o_i2b X6 hx (hb hby d1_26) ?_
    exact k_
  obtain ⟨cl10, Ar10, q10, Sz10, Nn10, Hs10, G10⟩ := id V6
  have hin10 : ¬ ((1 : Int32) < 0 ∨ cl10.slots.size ≤ ((1 : Int32)).toNatClampNeg) := inb_of Sz10 ⟨by decide, by decide⟩
  obtain ⟨T10, h10, X10, e10, W10, st10⟩ := stB X6 hx hZ e6 Ar10 (j := (1 : Int32)) hin10 (g := (mkF m 27 #[vj q1, .second, vi (3 : Int32), vr b2] [(.int ((((q1.toUInt64 >>> ((8 : Int32) &&& 0x3f).toInt64.toUInt64).toInt64).toInt32).toInt8.toInt32)), (.int (1 : Int32)), (.ref b2)])) rfl rfl (hb hby d1_27)
  rw [own_nar_byte] at W10
  have V10 : Arv Z h10 b2 k2 .byte (3 : Int32) [(.int ((q1.toInt32).toInt8.toInt32)), (.int ((((q1.toUInt64 >>> ((8 : Int32) &&& 0x3f).toInt64.toUInt64).toInt64).toInt32).toInt8.toInt32)), (.int (0 : Int32))] (.int (0 : Int32)) := Arv.set Ar10 q10 Sz10 Nn10 Hs10 G10 (fits_nar_byte _) W10 1 rfl (Nat.le_of_ble_eq_true rfl)
  have K11 : Keep h0 h10 [] := K7.wr W10 (Or.inr sz_b2)
  have Z11 : n0 ≤ h10.size := Nat.le_trans Z7 (Keep.of_wr W10).1
  have N10 := Fr.snoc X10 N6 g_b2
  have go12 : Go p e below s₁ F0 T10 (mkF m 28 #[vj q1, .second, vi (3 : Int32), vr b2] []) := fun t_ k_ => go9 t_ (st10 t_ k_)
  have go13 : Go p e below s₁ F0 T10 (mkF m 41 #[vj q1, .second, vi (3 : Int32), vr b2] [(.int ((((q1.toUInt64 >>> ((16 : Int32) &&& 0x3f).toInt64.toUInt64).toInt64).toInt32).toInt8.toInt32)), (.int (2 : Int32)), (.ref b2)]) := by
    intro t_ k_
    refine go12 t_ ?_
    refine o_iloadN X10 hx (hb hby d1_28) rfl ?_
    refine o_iconst X10 hx (hb hby d1_29) (v := 2) rfl ?_
    refine o_icmpNo X10 hx (hb hby d1_30) (tlt (by decide : (2 : Int32) < (3 : Int32))).2.2.2 ?_
    refine o_aloadN X10 hx (hb hby d1_33) rfl rfl ?_
    refine o_iconst X10 hx (hb hby d1_34) (v := 2) rfl ?_
    refine o_lloadN X10 hx (hb hby d1_35) rfl ?_
    refine o_bipush X10 hx (hb hby d1_36) (v := 16) rfl ?_
    refine o_lushr X10 hx (hb hby d1_38) ?_
    refine o_l2i X10 hx (hb hby d1_39) ?_
    refine o_i2b X10 hx (hb hby d1_40) ?_
    exact k_
  obtain ⟨cl14, Ar14, q14, Sz14, Nn14, Hs14, G14⟩ := id V10
  have hin14 : ¬ ((2 : Int32) < 0 ∨ cl14.slots.size ≤ ((2 : Int32)).toNatClampNeg) := inb_of Sz14 ⟨by decide, by decide⟩
  obtain ⟨T14, h14, X14, e14, W14, st14⟩ := stB X10 hx hZ e10 Ar14 (j := (2 : Int32)) hin14 (g := (mkF m 41 #[vj q1, .second, vi (3 : Int32), vr b2] [(.int ((((q1.toUInt64 >>> ((16 : Int32) &&& 0x3f).toInt64.toUInt64).toInt64).toInt32).toInt8.toInt32)), (.int (2 : Int32)), (.ref b2)])) rfl rfl (hb hby d1_41)
  rw [own_nar_byte] at W14
  have V14 : Arv Z h14 b2 k2 .byte (3 : Int32) [(.int ((q1.toInt32).toInt8.toInt32)), (.int ((((q1.toUInt64 >>> ((8 : Int32) &&& 0x3f).toInt64.toUInt64).toInt64).toInt32).toInt8.toInt32)), (.int ((((q1.toUInt64 >>> ((16 : Int32) &&& 0x3f).toInt64.toUInt64).toInt64).toInt32).toInt8.toInt32))] (.int (0 : Int32)) := Arv.set Ar14 q14 Sz14 Nn14 Hs14 G14 (fits_nar_byte _) W14 2 rfl (Nat.le_of_ble_eq_true rfl)
  have K15 : Keep h0 h14 [] := K11.wr W14 (Or.inr sz_b2)
  have Z15 : n0 ≤ h14.size := Nat.le_trans Z11 (Keep.of_wr W14).1
  have N14 := Fr.snoc X14 N10 g_b2
  have go16 : Go p e below s₁ F0 T14 (mkF m 42 #[vj q1, .second, vi (3 : Int32), vr b2] []) := fun t_ k_ => go13 t_ (st14 t_ k_)
  have go17 : Go p e below s₁ F0 T14 (mkF m 117 #[vj q1, .second, vi (3 : Int32), vr b2] [(.ref b2)]) := by
    intro t_ k_
    refine go16 t_ ?_
    refine o_iloadN X14 hx (hb hby d1_42) rfl ?_
    refine o_iconst X14 hx (hb hby d1_43) (v := 3) rfl ?_
    refine o_icmpYes X14 hx (hb hby d1_44) (pc' := 56) rfl (by decide) (flt (by decide : ¬ ((3 : Int32) < (3 : Int32)))).2.2.2 ?_
    refine o_iloadN X14 hx (hb hby d1_56) rfl ?_
    refine o_iconst X14 hx (hb hby d1_57) (v := 4) rfl ?_
    refine o_icmpYes X14 hx (hb hby d1_58) (pc' := 70) rfl (by decide) (flt (by decide : ¬ ((4 : Int32) < (3 : Int32)))).2.2.2 ?_
    refine o_iloadN X14 hx (hb hby d1_70) rfl ?_
    refine o_iconst X14 hx (hb hby d1_71) (v := 5) rfl ?_
    refine o_icmpYes X14 hx (hb hby d1_72) (pc' := 84) rfl (by decide) (flt (by decide : ¬ ((5 : Int32) < (3 : Int32)))).2.2.2 ?_
    refine o_iloadN X14 hx (hb hby d1_84) rfl ?_
    refine o_bipush X14 hx (hb hby d1_85) (v := 6) rfl ?_
    refine o_icmpYes X14 hx (hb hby d1_87) (pc' := 100) rfl (by decide) (flt (by decide : ¬ ((6 : Int32) < (3 : Int32)))).2.2.2 ?_
    refine o_iloadN X14 hx (hb hby d1_100) rfl ?_
    refine o_bipush X14 hx (hb hby d1_101) (v := 7) rfl ?_
    refine o_icmpYes X14 hx (hb hby d1_103) (pc' := 116) rfl (by decide) (flt (by decide : ¬ ((7 : Int32) < (3 : Int32)))).2.2.2 ?_
    refine o_aloadN X14 hx (hb hby d1_116) rfl rfl ?_
    exact k_
  obtain ⟨fs, hr, hrun, hended, hW, hsame⟩ := X14.leave (v := some (.ref b2)) (fun h => by rw [Bd.returns] at h; cases h)
  refine ⟨_, _, pre0 _ (go17 _ ?_), hrun, hended, _, _, rfl, ?_, ⟨_, rfl⟩, hW, hsame.mono (by decide) (by decide)⟩
  · skip
    exact retOut X14 hx Bd.returns rfl (Or.inr (Or.inr (Or.inr (Or.inr ⟨rfl, rfl, rfl⟩)))) (hb hby d1_117) hr
  · show Q1_3 Z q1 h0 n0 _ T14.heap _
    rw [e14]
    exact ⟨b2, k2, rfl, N14, K15, sz_b2, V14⟩

theorem pn_2_3 : plainName "com/example/ledgerline/ledgerline/compression/BlockInputStream" = true := by first | (simp [plainName, overriddenIn]; done) | decide +kernel
theorem ef_2_3 (m : MethodId) (x0 : Addr) : entryFrame m #[(.ref x0)] 4 = mkF m 0 #[vr x0, .unset, .unset, .unset] [] := by first | (simp [entryFrame, mkF, argsToLocals, Value.category]; done) | rfl
def f2_3 (w0 : Int32) (w1 : Int32) (w2 : Int32) : Int64 := ((((((0 : Int64) ||| ((w2 &&& (255 : Int32)).toInt64)) <<< ((8 : Int32) &&& 0x3f).toInt64) ||| ((w1 &&& (255 : Int32)).toInt64)) <<< ((8 : Int32) &&& 0x3f).toInt64) ||| ((w0 &&& (255 : Int32)).toInt64))
def Q2_3 (Z : State) (a1 : Addr) (k1 : ClassId) (w0 : Int32) (w1 : Int32) (w2 : Int32) (h0 : Heap) (n0 : Nat) (v : Option Value) (h : Heap) (L : List Loc) : Prop := v = some (.long (f2_3 w0 w1 w2)) ∧ Fr n0 L ∧ h = h0
set_option maxRecDepth 65536 in
set_option maxHeartbeats 40000000 in
theorem rm2_3 (l : Launch) (Z : State) (a0 : Array Value) (hw : ∀ d ∈ tables_1, d.before a0 Z = true) (ws : List Jvm.Cond) (a1 : Addr) (k1 : ClassId) (w0 : Int32) (w1 : Int32) (w2 : Int32) (h0 : Heap) (n0 : Nat) (Z0 : n0 ≤ h0.size) (V0 : Arv Z h0 a1 k1 .byte (3 : Int32) [(.int w0), (.int w1), (.int w2)] (.int (0 : Int32))) :
    MetFree l y_1 (head1 (Jvm.Cond.code y_1 prog_3_method_9_code 4 (some .long) :: ws) ({ frames := 0, cells := 0, slots := 0, locals := 0 } : Room)) (fun a U => a = #[(.ref a1)] ∧ Z.Warmed39 U.vm ∧ U.heap = h0) (fun _ _ _ _ _ => True) (fun _ U o U' => ∃ v L, o = .returned v ∧ Q2_3 Z a1 k1 w0 w1 w2 h0 n0 v U'.heap L ∧ FrameEnd U o U' L ({ frames := 0, cells := 0, slots := 0, locals := 0 } : Room).cells ({ frames := 0, cells := 0, slots := 0, locals := 0 } : Room).slots) := by
  refine MetFree.of_bodySF (plainFor_of_name pn_2_3) hisR ?_
  intro p e s m args below meth c s₁ Bd hml0 hP hK
  obtain ⟨rfl, hZ, hh⟩ := hP
  have hx := Bd.exec
  have hby := Bd.bytes
  have hml : c.maxLocals = 4 := hml0
  have hown : s.vm.findClass "com/example/ledgerline/ledgerline/compression/BlockInputStream" = some m.cls := findClass_of_methodNamed Bd.named
  have hnm := (name_of_methodNamed Bd.named Bd.method).1
  have X0 : Stand p l e ({ frames := 0, cells := 0, slots := 0, locals := 0 } : Room) s m #[(.ref a1)] below meth c s₁ [] 0 0 := Stand.of_body Bd
  have e0 : s₁.heap = h0 := by rw [← hh, Bd.state]; rfl
  have N0 := Fr.nil n0
  obtain ⟨F0, hF0⟩ : ∃ F : JFrame, F = entryFrame m #[(.ref a1)] 4 := ⟨_, rfl⟩
  have pre0 : ∀ t, Steps p.tables e below (s₁.setTop F0) t → Steps p.tables e below (s₁.setTop (entryFrame m #[(.ref a1)] 4)) t := fun t k => hF0 ▸ k
  have go0 : Go p e below s₁ F0 s₁ (mkF m 0 #[vr a1, .unset, .unset, .unset] []) := fun t k => castTop (hF0.trans (ef_2_3 m a1)) k
  have go1 : Go p e below s₁ F0 s₁ (mkF m 3 #[vr a1, vj (0 : Int64), .second, .unset] [(.ref a1)]) := by
    intro t_ k_
    refine go0 t_ ?_
    refine o_lconst X0 hx (hb hby d2_0) (v := 0) rfl ?_
    refine o_lstoreN X0 hx (hb hby d2_1) (L' := #[vr a1, vj (0 : Int64), .second, .unset]) rfl ?_
    refine o_aloadN X0 hx (hb hby d2_2) rfl rfl ?_
    exact k_
  obtain ⟨cl2, Ar2, -, Sz2, Nn2, -, -⟩ := id V0
  have go3 : Go p e below s₁ F0 s₁ (mkF m 17 #[vr a1, vj (0 : Int64), .second, vi (2 : Int32)] [(.int (2 : Int32)), (.ref a1), (.long (0 : Int64))]) := by
    intro t_ k_
    refine go1 t_ ?_
    refine o_len X0 hx hZ e0 Ar2 Sz2 Nn2 (hb hby d2_3) ?_
    refine o_iconst X0 hx (hb hby d2_4) (v := 1) rfl ?_
    refine o_isubE X0 hx (hb hby d2_5) (v := 2) rfl ?_
    refine o_istoreN X0 hx (hb hby d2_6) (L' := #[vr a1, vj (0 : Int64), .second, vi (2 : Int32)]) rfl ?_
    refine o_iloadN X0 hx (hb hby d2_7) rfl ?_
    refine o_ifNo X0 hx (hb hby d2_8) ((if0 _ _).trans (flt (by decide : ¬ ((2 : Int32) < (0 : Int32)))).1) ?_
    refine o_lloadN X0 hx (hb hby d2_11) rfl ?_
    refine o_bipush X0 hx (hb hby d2_12) (v := 8) rfl ?_
    refine o_lshlE X0 hx (hb hby d2_14) (v := 0) rfl ?_
    refine o_aloadN X0 hx (hb hby d2_15) rfl rfl ?_
    refine o_iloadN X0 hx (hb hby d2_16) rfl ?_
    exact k_
  obtain ⟨cl4, Ar4, -, Sz4, Nn4, Hs4, -⟩ := id V0
  have hin4 : ¬ ((2 : Int32) < 0 ∨ cl4.slots.size ≤ ((2 : Int32)).toNatClampNeg) := inb_of Sz4 ⟨by decide, by decide⟩
  have hat4 : cl4.slots[((2 : Int32)).toNatClampNeg]? = some (.int w2) := Hs4.at hin4 rfl
  have go5 : Go p e below s₁ F0 s₁ (mkF m 17 #[vr a1, vj ((0 : Int64) ||| ((w2 &&& (255 : Int32)).toInt64)), .second, vi (1 : Int32)] [(.int (1 : Int32)), (.ref a1), (.long (((0 : Int64) ||| ((w2 &&& (255 : Int32)).toInt64)) <<< ((8 : Int32) &&& 0x3f).toInt64))]) := by
    intro t_ k_
    refine go3 t_ ?_
    refine o_baload X0 hx hZ e0 Ar4 hin4 hat4 (hb hby d2_17) ?_
    refine o_sipush X0 hx (hb hby d2_18) (v := 255) rfl ?_
    refine o_iand X0 hx (hb hby d2_21) ?_
    refine o_i2l X0 hx (hb hby d2_22) ?_
    refine o_lor X0 hx (hb hby d2_23) ?_
    refine o_lstoreN X0 hx (hb hby d2_24) (L' := #[vr a1, vj ((0 : Int64) ||| ((w2 &&& (255 : Int32)).toInt64)), .second, vi (2 : Int32)]) rfl ?_
    refine o_iinc X0 hx (hb hby d2_25) rfl (L' := #[vr a1, vj ((0 : Int64) ||| ((w2 &&& (255 : Int32)).toInt64)), .second, vi (1 : Int32)]) rfl ?_
    refine o_goto X0 hx (hb hby d2_28) (pc' := 7) rfl (by decide) ?_
    refine o_iloadN X0 hx (hb hby d2_7) rfl ?_
    refine o_ifNo X0 hx (hb hby d2_8) ((if0 _ _).trans (flt (by decide : ¬ ((1 : Int32) < (0 : Int32)))).1) ?_
    refine o_lloadN X0 hx (hb hby d2_11) rfl ?_
    refine o_bipush X0 hx (hb hby d2_12) (v := 8) rfl ?_
    refine o_lshl X0 hx (hb hby d2_14) ?_
    refine o_aloadN X0 hx (hb hby d2_15) rfl rfl ?_
    refine o_iloadN X0 hx (hb hby d2_16) rfl ?_
    exact k_
  obtain ⟨cl6, Ar6, -, Sz6, Nn6, Hs6, -⟩ := id V0
  have hin6 : ¬ ((1 : Int32) < 0 ∨ cl6.slots.size ≤ ((1 : Int32)).toNatClampNeg) := inb_of Sz6 ⟨by decide, by decide⟩
  have hat6 : cl6.slots[((1 : Int32)).toNatClampNeg]? = some (.int w1) := Hs6.at hin6 rfl
  have go7 : Go p e below s₁ F0 s₁ (mkF m 17 #[vr a1, vj ((((0 : Int64) ||| ((w2 &&& (255 : Int32)).toInt64)) <<< ((8 : Int32) &&& 0x3f).toInt64) ||| ((w1 &&& (255 : Int32)).toInt64)), .second, vi (0 : Int32)] [(.int (0 : Int32)), (.ref a1), (.long (((((0 : Int64) ||| ((w2 &&& (255 : Int32)).toInt64)) <<< ((8 : Int32) &&& 0x3f).toInt64) ||| ((w1 &&& (255 : Int32)).toInt64)) <<< ((8 : Int32) &&& 0x3f).toInt64))]) := by
    intro t_ k_
    refine go5 t_ ?_
    refine o_baload X0 hx hZ e0 Ar6 hin6 hat6 (hb hby d2_17) ?_
    refine o_sipush X0 hx (hb hby d2_18) (v := 255) rfl ?_
    refine o_iand X0 hx (hb hby d2_21) ?_
    refine o_i2l X0 hx (hb hby d2_22) ?_
    refine o_lor X0 hx (hb hby d2_23) ?_
    refine o_lstoreN X0 hx (hb hby d2_24) (L' := #[vr a1, vj ((((0 : Int64) ||| ((w2 &&& (255 : Int32)).toInt64)) <<< ((8 : Int32) &&& 0x3f).toInt64) ||| ((w1 &&& (255 : Int32)).toInt64)), .second, vi (1 : Int32)]) rfl ?_
    refine o_iinc X0 hx (hb hby d2_25) rfl (L' := #[vr a1, vj ((((0 : Int64) ||| ((w2 &&& (255 : Int32)).toInt64)) <<< ((8 : Int32) &&& 0x3f).toInt64) ||| ((w1 &&& (255 : Int32)).toInt64)), .second, vi (0 : Int32)]) rfl ?_
    refine o_goto X0 hx (hb hby d2_28) (pc' := 7) rfl (by decide) ?_
    refine o_iloadN X0 hx (hb hby d2_7) rfl ?_
    refine o_ifNo X0 hx (hb hby d2_8) ((if0 _ _).trans (flt (by decide : ¬ ((0 : Int32) < (0 : Int32)))).1) ?_
    refine o_lloadN X0 hx (hb hby d2_11) rfl ?_
    refine o_bipush X0 hx (hb hby d2_12) (v := 8) rfl ?_
    refine o_lshl X0 hx (hb hby d2_14) ?_
    refine o_aloadN X0 hx (hb hby d2_15) rfl rfl ?_
    refine o_iloadN X0 hx (hb hby d2_16) rfl ?_
    exact k_
  obtain ⟨cl8, Ar8, -, Sz8, Nn8, Hs8, -⟩ := id V0
  have hin8 : ¬ ((0 : Int32) < 0 ∨ cl8.slots.size ≤ ((0 : Int32)).toNatClampNeg) := inb_of Sz8 ⟨by decide, by decide⟩
  have hat8 : cl8.slots[((0 : Int32)).toNatClampNeg]? = some (.int w0) := Hs8.at hin8 rfl
  have go9 : Go p e below s₁ F0 s₁ (mkF m 32 #[vr a1, vj ((((((0 : Int64) ||| ((w2 &&& (255 : Int32)).toInt64)) <<< ((8 : Int32) &&& 0x3f).toInt64) ||| ((w1 &&& (255 : Int32)).toInt64)) <<< ((8 : Int32) &&& 0x3f).toInt64) ||| ((w0 &&& (255 : Int32)).toInt64)), .second, vi (-1 : Int32)] [(.long ((((((0 : Int64) ||| ((w2 &&& (255 : Int32)).toInt64)) <<< ((8 : Int32) &&& 0x3f).toInt64) ||| ((w1 &&& (255 : Int32)).toInt64)) <<< ((8 : Int32) &&& 0x3f).toInt64) ||| ((w0 &&& (255 : Int32)).toInt64)))]) := by
    intro t_ k_
    refine go7 t_ ?_
    refine o_baload X0 hx hZ e0 Ar8 hin8 hat8 (hb hby d2_17) ?_
    refine o_sipush X0 hx (hb hby d2_18) (v := 255) rfl ?_
    refine o_iand X0 hx (hb hby d2_21) ?_
    refine o_i2l X0 hx (hb hby d2_22) ?_
    refine o_lor X0 hx (hb hby d2_23) ?_
    refine o_lstoreN X0 hx (hb hby d2_24) (L' := #[vr a1, vj ((((((0 : Int64) ||| ((w2 &&& (255 : Int32)).toInt64)) <<< ((8 : Int32) &&& 0x3f).toInt64) ||| ((w1 &&& (255 : Int32)).toInt64)) <<< ((8 : Int32) &&& 0x3f).toInt64) ||| ((w0 &&& (255 : Int32)).toInt64)), .second, vi (0 : Int32)]) rfl ?_
    refine o_iinc X0 hx (hb hby d2_25) rfl (L' := #[vr a1, vj ((((((0 : Int64) ||| ((w2 &&& (255 : Int32)).toInt64)) <<< ((8 : Int32) &&& 0x3f).toInt64) ||| ((w1 &&& (255 : Int32)).toInt64)) <<< ((8 : Int32) &&& 0x3f).toInt64) ||| ((w0 &&& (255 : Int32)).toInt64)), .second, vi (-1 : Int32)]) rfl ?_
    refine o_goto X0 hx (hb hby d2_28) (pc' := 7) rfl (by decide) ?_
    refine o_iloadN X0 hx (hb hby d2_7) rfl ?_
    refine o_ifYes X0 hx (hb hby d2_8) (pc' := 31) rfl (by decide) ((if0 _ _).trans (tlt (by decide : (-1 : Int32) < (0 : Int32))).1) ?_
    refine o_lloadN X0 hx (hb hby d2_31) rfl ?_
    exact k_
  obtain ⟨fs, hr, hrun, hended, hW, hsame⟩ := X0.leave (v := some (.long ((((((0 : Int64) ||| ((w2 &&& (255 : Int32)).toInt64)) <<< ((8 : Int32) &&& 0x3f).toInt64) ||| ((w1 &&& (255 : Int32)).toInt64)) <<< ((8 : Int32) &&& 0x3f).toInt64) ||| ((w0 &&& (255 : Int32)).toInt64)))) (fun h => by rw [Bd.returns] at h; cases h)
  refine ⟨_, _, pre0 _ (go9 _ ?_), hrun, hended, _, _, rfl, ?_, ⟨_, rfl⟩, hW, hsame.mono (by decide) (by decide)⟩
  · skip
    exact retOut X0 hx Bd.returns rfl (Or.inr (Or.inl ⟨rfl, rfl, _, rfl⟩)) (hb hby d2_32) hr
  · show Q2_3 Z a1 k1 w0 w1 w2 h0 n0 _ s₁.heap _
    rw [e0]
    exact ⟨(congrArg (fun z => some (Value.long z)) (show ((((((0 : Int64) ||| ((w2 &&& (255 : Int32)).toInt64)) <<< ((8 : Int32) &&& 0x3f).toInt64) ||| ((w1 &&& (255 : Int32)).toInt64)) <<< ((8 : Int32) &&& 0x3f).toInt64) ||| ((w0 &&& (255 : Int32)).toInt64)) = f2_3 w0 w1 w2 from by unfold f2_3; rfl)), N0, rfl⟩

theorem d1_47 : decode method_2_code 47 = .ok (.aload_n 3, 1) := by decide +kernel
theorem d1_48 : decode method_2_code 48 = .ok (.iconst 3, 1) := by decide +kernel
theorem d1_49 : decode method_2_code 49 = .ok (.lload_n 0, 1) := by decide +kernel
theorem d1_50 : decode method_2_code 50 = .ok (.bipush 24, 2) := by decide +kernel
theorem d1_52 : decode method_2_code 52 = .ok (.lushr, 1) := by decide +kernel
theorem d1_53 : decode method_2_code 53 = .ok (.l2i, 1) := by decide +kernel
theorem d1_54 : decode method_2_code 54 = .ok (.i2b, 1) := by decide +kernel
theorem d1_55 : decode method_2_code 55 = .ok (.bastore, 1) := by decide +kernel
theorem pn_1_4 : plainName "com/example/ledgerline/ledgerline/compression/BlockInputStreamLittleEndianPinLaw" = true := by first | (simp [plainName, overriddenIn]; done) | decide +kernel
theorem ef_1_4 (m : MethodId) (x0 : Int64) : entryFrame m #[(.long x0), (.int (4 : Int32))] 4 = mkF m 0 #[vj x0, .second, vi (4 : Int32), .unset] [] := by first | (simp [entryFrame, mkF, argsToLocals, Value.category]; done) | rfl
def Q1_4 (Z : State) (q1 : Int64) (h0 : Heap) (n0 : Nat) (v : Option Value) (h : Heap) (L : List Loc) : Prop := ∃ b : Addr, ∃ kb : ClassId, v = some (.ref b) ∧ Fr n0 L ∧ Keep h0 h [] ∧ h0.size ≤ b ∧ Arv Z h b kb .byte (4 : Int32) [(.int ((q1.toInt32).toInt8.toInt32)), (.int ((((q1.toUInt64 >>> ((8 : Int32) &&& 0x3f).toInt64.toUInt64).toInt64).toInt32).toInt8.toInt32)), (.int ((((q1.toUInt64 >>> ((16 : Int32) &&& 0x3f).toInt64.toUInt64).toInt64).toInt32).toInt8.toInt32)), (.int ((((q1.toUInt64 >>> ((24 : Int32) &&& 0x3f).toInt64.toUInt64).toInt64).toInt32).toInt8.toInt32))] (.int (0 : Int32))
set_option maxRecDepth 65536 in
set_option maxHeartbeats 40000000 in
theorem rm1_4 (l : Launch) (Z : State) (a0 : Array Value) (hw : ∀ d ∈ tables_1, d.before a0 Z = true) (ws : List Jvm.Cond) (q1 : Int64) (h0 : Heap) (n0 : Nat) (Z0 : n0 ≤ h0.size) :
    MetFree l y_0 (head1 (Jvm.Cond.code y_0 method_2_code 4 (some (.array .byte)) :: ws) ({ frames := 0, cells := 1, slots := 4, locals := 0 } : Room)) (fun a U => a = #[(.long q1), (.int (4 : Int32))] ∧ Z.Warmed39 U.vm ∧ U.heap = h0) (fun _ _ _ _ _ => True) (fun _ U o U' => ∃ v L, o = .returned v ∧ Q1_4 Z q1 h0 n0 v U'.heap L ∧ FrameEnd U o U' L ({ frames := 0, cells := 1, slots := 4, locals := 0 } : Room).cells ({ frames := 0, cells := 1, slots := 4, locals := 0 } : Room).slots) := by
  refine MetFree.of_bodySF (plainFor_of_name pn_1_4) hisR ?_
  intro p e s m args below meth c s₁ Bd hml0 hP hK
  obtain ⟨rfl, hZ, hh⟩ := hP
  have hx := Bd.exec
  have hby := Bd.bytes
  have hml : c.maxLocals = 4 := hml0
  have hown : s.vm.findClass "com/example/ledgerline/ledgerline/compression/BlockInputStreamLittleEndianPinLaw" = some m.cls := findClass_of_methodNamed Bd.named
  have hnm := (name_of_methodNamed Bd.named Bd.method).1
  have X0 : Stand p l e ({ frames := 0, cells := 1, slots := 4, locals := 0 } : Room) s m #[(.long q1), (.int (4 : Int32))] below meth c s₁ [] 0 0 := Stand.of_body Bd
  have e0 : s₁.heap = h0 := by rw [← hh, Bd.state]; rfl
  have N0 := Fr.nil n0
  have K0 : Keep h0 h0 [] := Keep.refl h0 []
  obtain ⟨F0, hF0⟩ : ∃ F : JFrame, F = entryFrame m #[(.long q1), (.int (4 : Int32))] 4 := ⟨_, rfl⟩
  have pre0 : ∀ t, Steps p.tables e below (s₁.setTop F0) t → Steps p.tables e below (s₁.setTop (entryFrame m #[(.long q1), (.int (4 : Int32))] 4)) t := fun t k => hF0 ▸ k
  have go0 : Go p e below s₁ F0 s₁ (mkF m 0 #[vj q1, .second, vi (4 : Int32), .unset] []) := fun t k => castTop (hF0.trans (ef_1_4 m q1)) k
  have go1 : Go p e below s₁ F0 s₁ (mkF m 1 #[vj q1, .second, vi (4 : Int32), .unset] [(.int (4 : Int32))]) := by
    intro t_ k_
    refine go0 t_ ?_
    refine o_iloadN X0 hx (hb hby d1_0) rfl ?_
    exact k_
  obtain ⟨T2, h2, k2, X2, e2, E2, A2, st2⟩ := newP X0 hx hZ (own_w hw 5 rfl) e0 (g := (mkF m 1 #[vj q1, .second, vi (4 : Int32), .unset] [(.int (4 : Int32))])) rfl (hb hby d1_1) rfl (by decide) (cap := 4) (by decide) (by decide) (by decide) (by decide)
  obtain ⟨b2, gz2⟩ : ∃ z, z = h0.size := ⟨_, rfl⟩
  rw [← gz2] at A2 st2
  have g_b2 : n0 ≤ b2 := Nat.le_trans Z0 (Nat.le_of_eq gz2.symm)
  have sz_b2 : h0.size ≤ b2 := Nat.le_trans K0.1 (Nat.le_of_eq gz2.symm)
  have K3 : Keep h0 h2 [] := K0.ext E2
  have Z3 : n0 ≤ h2.size := Nat.le_trans Z0 E2.1
  have V2 : Arv Z h2 b2 k2 .byte (4 : Int32) [(.int (0 : Int32)), (.int (0 : Int32)), (.int (0 : Int32)), (.int (0 : Int32))] (.int (0 : Int32)) := (Arv.new A2 (by decide)).pad (pad_rep [] (.int (0 : Int32)) 4)
  have go4 : Go p e below s₁ F0 T2 (mkF m 3 #[vj q1, .second, vi (4 : Int32), .unset] [(.ref b2)]) := fun t_ k_ => go1 t_ (st2 t_ k_)
  have go5 : Go p e below s₁ F0 T2 (mkF m 13 #[vj q1, .second, vi (4 : Int32), vr b2] [(.int ((q1.toInt32).toInt8.toInt32)), (.int (0 : Int32)), (.ref b2)]) := by
    intro t_ k_
    refine go4 t_ ?_
    refine o_astoreN X2 hx (hb hby d1_3) rfl (L' := #[vj q1, .second, vi (4 : Int32), vr b2]) rfl ?_
    refine o_iloadN X2 hx (hb hby d1_4) rfl ?_
    refine o_ifNo X2 hx (hb hby d1_5) ((if0 _ _).trans (tlt (by decide : (0 : Int32) < (4 : Int32))).2.2.2) ?_
    refine o_aloadN X2 hx (hb hby d1_8) rfl rfl ?_
    refine o_iconst X2 hx (hb hby d1_9) (v := 0) rfl ?_
    refine o_lloadN X2 hx (hb hby d1_10) rfl ?_
    refine o_l2i X2 hx (hb hby d1_11) ?_
    refine o_i2b X2 hx (hb hby d1_12) ?_
    exact k_
  obtain ⟨cl6, Ar6, q6, Sz6, Nn6, Hs6, G6⟩ := id V2
  have hin6 : ¬ ((0 : Int32) < 0 ∨ cl6.slots.size ≤ ((0 : Int32)).toNatClampNeg) := inb_of Sz6 ⟨by decide, by decide⟩
  obtain ⟨T6, h6, X6, e6, W6, st6⟩ := stB X2 hx hZ e2 Ar6 (j := (0 : Int32)) hin6 (g := (mkF m 13 #[vj q1, .second, vi (4 : Int32), vr b2] [(.int ((q1.toInt32).toInt8.toInt32)), (.int (0 : Int32)), (.ref b2)])) rfl rfl (hb hby d1_13)
  rw [own_nar_byte] at W6
  have V6 : Arv Z h6 b2 k2 .byte (4 : Int32) [(.int ((q1.toInt32).toInt8.toInt32)), (.int (0 : Int32)), (.int (0 : Int32)), (.int (0 : Int32))] (.int (0 : Int32)) := Arv.set Ar6 q6 Sz6 Nn6 Hs6 G6 (fits_nar_byte _) W6 0 rfl (Nat.le_of_ble_eq_true rfl)
  have K7 : Keep h0 h6 [] := K3.wr W6 (Or.inr sz_b2)
  have Z7 : n0 ≤ h6.size := Nat.le_trans Z3 (Keep.of_wr W6).1
  have N6 := Fr.snoc X6 N0 g_b2
  have go8 : Go p e below s₁ F0 T6 (mkF m 14 #[vj q1, .second, vi (4 : Int32), vr b2] []) := fun t_ k_ => go5 t_ (st6 t_ k_)
  have go9 : Go p e below s₁ F0 T6 (mkF m 27 #[vj q1, .second, vi (4 : Int32), vr b2] [(.int ((((q1.toUInt64 >>> ((8 : Int32) &&& 0x3f).toInt64.toUInt64).toInt64).toInt32).toInt8.toInt32)), (.int (1 : Int32)), (.ref b2)]) := by
    intro t_ k_
    refine go8 t_ ?_
    refine o_iloadN X6 hx (hb hby d1_14) rfl ?_
    refine o_iconst X6 hx (hb hby d1_15) (v := 1) rfl ?_
    refine o_icmpNo X6 hx (hb hby d1_16) (tlt (by decide : (1 : Int32) < (4 : Int32))).2.2.2 ?_
    refine o_aloadN X6 hx (hb hby d1_19) rfl rfl ?_
    refine o_iconst X6 hx (hb hby d1_20) (v := 1) rfl ?_
    refine o_lloadN X6 hx (hb hby d1_21) rfl ?_
    refine o_bipush X6 hx (hb hby d1_22) (v := 8) rfl ?_
    refine o_lushr X6 hx (hb hby d1_24) ?_
    refine o_l2i X6 hx (hb hby d1_25) ?_
    refine o_i2b X6 hx (hb hby d1_26) ?_
    exact k_
  obtain ⟨cl10, Ar10, q10, Sz10, Nn10, Hs10, G10⟩ := id V6
  have hin10 : ¬ ((1 : Int32) < 0 ∨ cl10.slots.size ≤ ((1 : Int32)).toNatClampNeg) := inb_of Sz10 ⟨by decide, by decide⟩
  obtain ⟨T10, h10, X10, e10, W10, st10⟩ := stB X6 hx hZ e6 Ar10 (j := (1 : Int32)) hin10 (g := (mkF m 27 #[vj q1, .second, vi (4 : Int32), vr b2] [(.int ((((q1.toUInt64 >>> ((8 : Int32) &&& 0x3f).toInt64.toUInt64).toInt64).toInt32).toInt8.toInt32)), (.int (1 : Int32)), (.ref b2)])) rfl rfl (hb hby d1_27)
  rw [own_nar_byte] at W10
  have V10 : Arv Z h10 b2 k2 .byte (4 : Int32) [(.int ((q1.toInt32).toInt8.toInt32)), (.int ((((q1.toUInt64 >>> ((8 : Int32) &&& 0x3f).toInt64.toUInt64).toInt64).toInt32).toInt8.toInt32)), (.int (0 : Int32)), (.int (0 : Int32))] (.int (0 : Int32)) := Arv.set Ar10 q10 Sz10 Nn10 Hs10 G10 (fits_nar_byte _) W10 1 rfl (Nat.le_of_ble_eq_true rfl)
  have K11 : Keep h0 h10 [] := K7.wr W10 (Or.inr sz_b2)
  have Z11 : n0 ≤ h10.size := Nat.le_trans Z7 (Keep.of_wr W10).1
  have N10 := Fr.snoc X10 N6 g_b2
  have go12 : Go p e below s₁ F0 T10 (mkF m 28 #[vj q1, .second, vi (4 : Int32), vr b2] []) := fun t_ k_ => go9 t_ (st10 t_ k_)
  have go13 : Go p e below s₁ F0 T10 (mkF m 41 #[vj q1, .second, vi (4 : Int32), vr b2] [(.int ((((q1.toUInt64 >>> ((16 : Int32) &&& 0x3f).toInt64.toUInt64).toInt64).toInt32).toInt8.toInt32)), (.int (2 : Int32)), (.ref b2)]) := by
    intro t_ k_
    refine go12 t_ ?_
    refine o_iloadN X10 hx (hb hby d1_28) rfl ?_
    refine o_iconst X10 hx (hb hby d1_29) (v := 2) rfl ?_
    refine o_icmpNo X10 hx (hb hby d1_30) (tlt (by decide : (2 : Int32) < (4 : Int32))).2.2.2 ?_
    refine o_aloadN X10 hx (hb hby d1_33) rfl rfl ?_
    refine o_iconst X10 hx (hb hby d1_34) (v := 2) rfl ?_
    refine o_lloadN X10 hx (hb hby d1_35) rfl ?_
    refine o_bipush X10 hx (hb hby d1_36) (v := 16) rfl ?_
    refine o_lushr X10 hx (hb hby d1_38) ?_
    refine o_l2i X10 hx (hb hby d1_39) ?_
    refine o_i2b X10 hx (hb hby d1_40) ?_
    exact k_
  obtain ⟨cl14, Ar14, q14, Sz14, Nn14, Hs14, G14⟩ := id V10
  have hin14 : ¬ ((2 : Int32) < 0 ∨ cl14.slots.size ≤ ((2 : Int32)).toNatClampNeg) := inb_of Sz14 ⟨by decide, by decide⟩
  obtain ⟨T14, h14, X14, e14, W14, st14⟩ := stB X10 hx hZ e10 Ar14 (j := (2 : Int32)) hin14 (g := (mkF m 41 #[vj q1, .second, vi (4 : Int32), vr b2] [(.int ((((q1.toUInt64 >>> ((16 : Int32) &&& 0x3f).toInt64.toUInt64).toInt64).toInt32).toInt8.toInt32)), (.int (2 : Int32)), (.ref b2)])) rfl rfl (hb hby d1_41)
  rw [own_nar_byte] at W14
  have V14 : Arv Z h14 b2 k2 .byte (4 : Int32) [(.int ((q1.toInt32).toInt8.toInt32)), (.int ((((q1.toUInt64 >>> ((8 : Int32) &&& 0x3f).toInt64.toUInt64).toInt64).toInt32).toInt8.toInt32)), (.int ((((q1.toUInt64 >>> ((16 : Int32) &&& 0x3f).toInt64.toUInt64).toInt64).toInt32).toInt8.toInt32)), (.int (0 : Int32))] (.int (0 : Int32)) := Arv.set Ar14 q14 Sz14 Nn14 Hs14 G14 (fits_nar_byte _) W14 2 rfl (Nat.le_of_ble_eq_true rfl)
  have K15 : Keep h0 h14 [] := K11.wr W14 (Or.inr sz_b2)
  have Z15 : n0 ≤ h14.size := Nat.le_trans Z11 (Keep.of_wr W14).1
  have N14 := Fr.snoc X14 N10 g_b2
  have go16 : Go p e below s₁ F0 T14 (mkF m 42 #[vj q1, .second, vi (4 : Int32), vr b2] []) := fun t_ k_ => go13 t_ (st14 t_ k_)
  have go17 : Go p e below s₁ F0 T14 (mkF m 55 #[vj q1, .second, vi (4 : Int32), vr b2] [(.int ((((q1.toUInt64 >>> ((24 : Int32) &&& 0x3f).toInt64.toUInt64).toInt64).toInt32).toInt8.toInt32)), (.int (3 : Int32)), (.ref b2)]) := by
    intro t_ k_
    refine go16 t_ ?_
    refine o_iloadN X14 hx (hb hby d1_42) rfl ?_
    refine o_iconst X14 hx (hb hby d1_43) (v := 3) rfl ?_
    refine o_icmpNo X14 hx (hb hby d1_44) (tlt (by decide : (3 : Int32) < (4 : Int32))).2.2.2 ?_
    refine o_aloadN X14 hx (hb hby d1_47) rfl rfl ?_
    refine o_iconst X14 hx (hb hby d1_48) (v := 3) rfl ?_
    refine o_lloadN X14 hx (hb hby d1_49) rfl ?_
    refine o_bipush X14 hx (hb hby d1_50) (v := 24) rfl ?_
    refine o_lushr X14 hx (hb hby d1_52) ?_
    refine o_l2i X14 hx (hb hby d1_53) ?_
    refine o_i2b X14 hx (hb hby d1_54) ?_
    exact k_
  obtain ⟨cl18, Ar18, q18, Sz18, Nn18, Hs18, G18⟩ := id V14
  have hin18 : ¬ ((3 : Int32) < 0 ∨ cl18.slots.size ≤ ((3 : Int32)).toNatClampNeg) := inb_of Sz18 ⟨by decide, by decide⟩
  obtain ⟨T18, h18, X18, e18, W18, st18⟩ := stB X14 hx hZ e14 Ar18 (j := (3 : Int32)) hin18 (g := (mkF m 55 #[vj q1, .second, vi (4 : Int32), vr b2] [(.int ((((q1.toUInt64 >>> ((24 : Int32) &&& 0x3f).toInt64.toUInt64).toInt64).toInt32).toInt8.toInt32)), (.int (3 : Int32)), (.ref b2)])) rfl rfl (hb hby d1_55)
  rw [own_nar_byte] at W18
  have V18 : Arv Z h18 b2 k2 .byte (4 : Int32) [(.int ((q1.toInt32).toInt8.toInt32)), (.int ((((q1.toUInt64 >>> ((8 : Int32) &&& 0x3f).toInt64.toUInt64).toInt64).toInt32).toInt8.toInt32)), (.int ((((q1.toUInt64 >>> ((16 : Int32) &&& 0x3f).toInt64.toUInt64).toInt64).toInt32).toInt8.toInt32)), (.int ((((q1.toUInt64 >>> ((24 : Int32) &&& 0x3f).toInt64.toUInt64).toInt64).toInt32).toInt8.toInt32))] (.int (0 : Int32)) := Arv.set Ar18 q18 Sz18 Nn18 Hs18 G18 (fits_nar_byte _) W18 3 rfl (Nat.le_of_ble_eq_true rfl)
  have K19 : Keep h0 h18 [] := K15.wr W18 (Or.inr sz_b2)
  have Z19 : n0 ≤ h18.size := Nat.le_trans Z15 (Keep.of_wr W18).1
  have N18 := Fr.snoc X18 N14 g_b2
  have go20 : Go p e below s₁ F0 T18 (mkF m 56 #[vj q1, .second, vi (4 : Int32), vr b2] []) := fun t_ k_ => go17 t_ (st18 t_ k_)
  have go21 : Go p e below s₁ F0 T18 (mkF m 117 #[vj q1, .second, vi (4 : Int32), vr b2] [(.ref b2)]) := by
    intro t_ k_
    refine go20 t_ ?_
    refine o_iloadN X18 hx (hb hby d1_56) rfl ?_
    refine o_iconst X18 hx (hb hby d1_57) (v := 4) rfl ?_
    refine o_icmpYes X18 hx (hb hby d1_58) (pc' := 70) rfl (by decide) (flt (by decide : ¬ ((4 : Int32) < (4 : Int32)))).2.2.2 ?_
    refine o_iloadN X18 hx (hb hby d1_70) rfl ?_
    refine o_iconst X18 hx (hb hby d1_71) (v := 5) rfl ?_
    refine o_icmpYes X18 hx (hb hby d1_72) (pc' := 84) rfl (by decide) (flt (by decide : ¬ ((5 : Int32) < (4 : Int32)))).2.2.2 ?_
    refine o_iloadN X18 hx (hb hby d1_84) rfl ?_
    refine o_bipush X18 hx (hb hby d1_85) (v := 6) rfl ?_
    refine o_icmpYes X18 hx (hb hby d1_87) (pc' := 100) rfl (by decide) (flt (by decide : ¬ ((6 : Int32) < (4 : Int32)))).2.2.2 ?_
    refine o_iloadN X18 hx (hb hby d1_100) rfl ?_
    refine o_bipush X18 hx (hb hby d1_101) (v := 7) rfl ?_
    refine o_icmpYes X18 hx (hb hby d1_103) (pc' := 116) rfl (by decide) (flt (by decide : ¬ ((7 : Int32) < (4 : Int32)))).2.2.2 ?_
    refine o_aloadN X18 hx (hb hby d1_116) rfl rfl ?_
    exact k_
  obtain ⟨fs, hr, hrun, hended, hW, hsame⟩ := X18.leave (v := some (.ref b2)) (fun h => by rw [Bd.returns] at h; cases h)
  refine ⟨_, _, pre0 _ (go21 _ ?_), hrun, hended, _, _, rfl, ?_, ⟨_, rfl⟩, hW, hsame.mono (by decide) (by decide)⟩
  · skip
    exact retOut X18 hx Bd.returns rfl (Or.inr (Or.inr (Or.inr (Or.inr ⟨rfl, rfl, rfl⟩)))) (hb hby d1_117) hr
  · show Q1_4 Z q1 h0 n0 _ T18.heap _
    rw [e18]
    exact ⟨b2, k2, rfl, N18, K19, sz_b2, V18⟩

theorem pn_2_4 : plainName "com/example/ledgerline/ledgerline/compression/BlockInputStream" = true := by first | (simp [plainName, overriddenIn]; done) | decide +kernel
theorem ef_2_4 (m : MethodId) (x0 : Addr) : entryFrame m #[(.ref x0)] 4 = mkF m 0 #[vr x0, .unset, .unset, .unset] [] := by first | (simp [entryFrame, mkF, argsToLocals, Value.category]; done) | rfl
def f2_4 (w0 : Int32) (w1 : Int32) (w2 : Int32) (w3 : Int32) : Int64 := ((((((((0 : Int64) ||| ((w3 &&& (255 : Int32)).toInt64)) <<< ((8 : Int32) &&& 0x3f).toInt64) ||| ((w2 &&& (255 : Int32)).toInt64)) <<< ((8 : Int32) &&& 0x3f).toInt64) ||| ((w1 &&& (255 : Int32)).toInt64)) <<< ((8 : Int32) &&& 0x3f).toInt64) ||| ((w0 &&& (255 : Int32)).toInt64))
def Q2_4 (Z : State) (a1 : Addr) (k1 : ClassId) (w0 : Int32) (w1 : Int32) (w2 : Int32) (w3 : Int32) (h0 : Heap) (n0 : Nat) (v : Option Value) (h : Heap) (L : List Loc) : Prop := v = some (.long (f2_4 w0 w1 w2 w3)) ∧ Fr n0 L ∧ h = h0
set_option maxRecDepth 65536 in
set_option maxHeartbeats 40000000 in
theorem rm2_4 (l : Launch) (Z : State) (a0 : Array Value) (hw : ∀ d ∈ tables_1, d.before a0 Z = true) (ws : List Jvm.Cond) (a1 : Addr) (k1 : ClassId) (w0 : Int32) (w1 : Int32) (w2 : Int32) (w3 : Int32) (h0 : Heap) (n0 : Nat) (Z0 : n0 ≤ h0.size) (V0 : Arv Z h0 a1 k1 .byte (4 : Int32) [(.int w0), (.int w1), (.int w2), (.int w3)] (.int (0 : Int32))) :
    MetFree l y_1 (head1 (Jvm.Cond.code y_1 prog_3_method_9_code 4 (some .long) :: ws) ({ frames := 0, cells := 0, slots := 0, locals := 0 } : Room)) (fun a U => a = #[(.ref a1)] ∧ Z.Warmed39 U.vm ∧ U.heap = h0) (fun _ _ _ _ _ => True) (fun _ U o U' => ∃ v L, o = .returned v ∧ Q2_4 Z a1 k1 w0 w1 w2 w3 h0 n0 v U'.heap L ∧ FrameEnd U o U' L ({ frames := 0, cells := 0, slots := 0, locals := 0 } : Room).cells ({ frames := 0, cells := 0, slots := 0, locals := 0 } : Room).slots) := by
  refine MetFree.of_bodySF (plainFor_of_name pn_2_4) hisR ?_
  intro p e s m args below meth c s₁ Bd hml0 hP hK
  obtain ⟨rfl, hZ, hh⟩ := hP
  have hx := Bd.exec
  have hby := Bd.bytes
  have hml : c.maxLocals = 4 := hml0
  have hown : s.vm.findClass "com/example/ledgerline/ledgerline/compression/BlockInputStream" = some m.cls := findClass_of_methodNamed Bd.named
  have hnm := (name_of_methodNamed Bd.named Bd.method).1
  have X0 : Stand p l e ({ frames := 0, cells := 0, slots := 0, locals := 0 } : Room) s m #[(.ref a1)] below meth c s₁ [] 0 0 := Stand.of_body Bd
  have e0 : s₁.heap = h0 := by rw [← hh, Bd.state]; rfl
  have N0 := Fr.nil n0
  obtain ⟨F0, hF0⟩ : ∃ F : JFrame, F = entryFrame m #[(.ref a1)] 4 := ⟨_, rfl⟩
  have pre0 : ∀ t, Steps p.tables e below (s₁.setTop F0) t → Steps p.tables e below (s₁.setTop (entryFrame m #[(.ref a1)] 4)) t := fun t k => hF0 ▸ k
  have go0 : Go p e below s₁ F0 s₁ (mkF m 0 #[vr a1, .unset, .unset, .unset] []) := fun t k => castTop (hF0.trans (ef_2_4 m a1)) k
  have go1 : Go p e below s₁ F0 s₁ (mkF m 3 #[vr a1, vj (0 : Int64), .second, .unset] [(.ref a1)]) := by
    intro t_ k_
    refine go0 t_ ?_
    refine o_lconst X0 hx (hb hby d2_0) (v := 0) rfl ?_
    refine o_lstoreN X0 hx (hb hby d2_1) (L' := #[vr a1, vj (0 : Int64), .second, .unset]) rfl ?_
    refine o_aloadN X0 hx (hb hby d2_2) rfl rfl ?_
    exact k_
  obtain ⟨cl2, Ar2, -, Sz2, Nn2, -, -⟩ := id V0
  have go3 : Go p e below s₁ F0 s₁ (mkF m 17 #[vr a1, vj (0 : Int64), .second, vi (3 : Int32)] [(.int (3 : Int32)), (.ref a1), (.long (0 : Int64))]) := by
    intro t_ k_
    refine go1 t_ ?_
    refine o_len X0 hx hZ e0 Ar2 Sz2 Nn2 (hb hby d2_3) ?_
    refine o_iconst X0 hx (hb hby d2_4) (v := 1) rfl ?_
    refine o_isubE X0 hx (hb hby d2_5) (v := 3) rfl ?_
    refine o_istoreN X0 hx (hb hby d2_6) (L' := #[vr a1, vj (0 : Int64), .second, vi (3 : Int32)]) rfl ?_
    refine o_iloadN X0 hx (hb hby d2_7) rfl ?_
    refine o_ifNo X0 hx (hb hby d2_8) ((if0 _ _).trans (flt (by decide : ¬ ((3 : Int32) < (0 : Int32)))).1) ?_
    refine o_lloadN X0 hx (hb hby d2_11) rfl ?_
    refine o_bipush X0 hx (hb hby d2_12) (v := 8) rfl ?_
    refine o_lshlE X0 hx (hb hby d2_14) (v := 0) rfl ?_
    refine o_aloadN X0 hx (hb hby d2_15) rfl rfl ?_
    refine o_iloadN X0 hx (hb hby d2_16) rfl ?_
    exact k_
  obtain ⟨cl4, Ar4, -, Sz4, Nn4, Hs4, -⟩ := id V0
  have hin4 : ¬ ((3 : Int32) < 0 ∨ cl4.slots.size ≤ ((3 : Int32)).toNatClampNeg) := inb_of Sz4 ⟨by decide, by decide⟩
  have hat4 : cl4.slots[((3 : Int32)).toNatClampNeg]? = some (.int w3) := Hs4.at hin4 rfl
  have go5 : Go p e below s₁ F0 s₁ (mkF m 17 #[vr a1, vj ((0 : Int64) ||| ((w3 &&& (255 : Int32)).toInt64)), .second, vi (2 : Int32)] [(.int (2 : Int32)), (.ref a1), (.long (((0 : Int64) ||| ((w3 &&& (255 : Int32)).toInt64)) <<< ((8 : Int32) &&& 0x3f).toInt64))]) := by
    intro t_ k_
    refine go3 t_ ?_
    refine o_baload X0 hx hZ e0 Ar4 hin4 hat4 (hb hby d2_17) ?_
    refine o_sipush X0 hx (hb hby d2_18) (v := 255) rfl ?_
    refine o_iand X0 hx (hb hby d2_21) ?_
    refine o_i2l X0 hx (hb hby d2_22) ?_
    refine o_lor X0 hx (hb hby d2_23) ?_
    refine o_lstoreN X0 hx (hb hby d2_24) (L' := #[vr a1, vj ((0 : Int64) ||| ((w3 &&& (255 : Int32)).toInt64)), .second, vi (3 : Int32)]) rfl ?_
    refine o_iinc X0 hx (hb hby d2_25) rfl (L' := #[vr a1, vj ((0 : Int64) ||| ((w3 &&& (255 : Int32)).toInt64)), .second, vi (2 : Int32)]) rfl ?_
    refine o_goto X0 hx (hb hby d2_28) (pc' := 7) rfl (by decide) ?_
    refine o_iloadN X0 hx (hb hby d2_7) rfl ?_
    refine o_ifNo X0 hx (hb hby d2_8) ((if0 _ _).trans (flt (by decide : ¬ ((2 : Int32) < (0 : Int32)))).1) ?_
    refine o_lloadN X0 hx (hb hby d2_11) rfl ?_
    refine o_bipush X0 hx (hb hby d2_12) (v := 8) rfl ?_
    refine o_lshl X0 hx (hb hby d2_14) ?_
    refine o_aloadN X0 hx (hb hby d2_15) rfl rfl ?_
    refine o_iloadN X0 hx (hb hby d2_16) rfl ?_
    exact k_
  obtain ⟨cl6, Ar6, -, Sz6, Nn6, Hs6, -⟩ := id V0
  have hin6 : ¬ ((2 : Int32) < 0 ∨ cl6.slots.size ≤ ((2 : Int32)).toNatClampNeg) := inb_of Sz6 ⟨by decide, by decide⟩
  have hat6 : cl6.slots[((2 : Int32)).toNatClampNeg]? = some (.int w2) := Hs6.at hin6 rfl
  have go7 : Go p e below s₁ F0 s₁ (mkF m 17 #[vr a1, vj ((((0 : Int64) ||| ((w3 &&& (255 : Int32)).toInt64)) <<< ((8 : Int32) &&& 0x3f).toInt64) ||| ((w2 &&& (255 : Int32)).toInt64)), .second, vi (1 : Int32)] [(.int (1 : Int32)), (.ref a1), (.long (((((0 : Int64) ||| ((w3 &&& (255 : Int32)).toInt64)) <<< ((8 : Int32) &&& 0x3f).toInt64) ||| ((w2 &&& (255 : Int32)).toInt64)) <<< ((8 : Int32) &&& 0x3f).toInt64))]) := by
    intro t_ k_
    refine go5 t_ ?_
    refine o_baload X0 hx hZ e0 Ar6 hin6 hat6 (hb hby d2_17) ?_
    refine o_sipush X0 hx (hb hby d2_18) (v := 255) rfl ?_
    refine o_iand X0 hx (hb hby d2_21) ?_
    refine o_i2l X0 hx (hb hby d2_22) ?_
    refine o_lor X0 hx (hb hby d2_23) ?_
    refine o_lstoreN X0 hx (hb hby d2_24) (L' := #[vr a1, vj ((((0 : Int64) ||| ((w3 &&& (255 : Int32)).toInt64)) <<< ((8 : Int32) &&& 0x3f).toInt64) ||| ((w2 &&& (255 : Int32)).toInt64)), .second, vi (2 : Int32)]) rfl ?_
    refine o_iinc X0 hx (hb hby d2_25) rfl (L' := #[vr a1, vj ((((0 : Int64) ||| ((w3 &&& (255 : Int32)).toInt64)) <<< ((8 : Int32) &&& 0x3f).toInt64) ||| ((w2 &&& (255 : Int32)).toInt64)), .second, vi (1 : Int32)]) rfl ?_
    refine o_goto X0 hx (hb hby d2_28) (pc' := 7) rfl (by decide) ?_
    refine o_iloadN X0 hx (hb hby d2_7) rfl ?_
    refine o_ifNo X0 hx (hb hby d2_8) ((if0 _ _).trans (flt (by decide : ¬ ((1 : Int32) < (0 : Int32)))).1) ?_
    refine o_lloadN X0 hx (hb hby d2_11) rfl ?_
    refine o_bipush X0 hx (hb hby d2_12) (v := 8) rfl ?_
    refine o_lshl X0 hx (hb hby d2_14) ?_
    refine o_aloadN X0 hx (hb hby d2_15) rfl rfl ?_
    refine o_iloadN X0 hx (hb hby d2_16) rfl ?_
    exact k_
  obtain ⟨cl8, Ar8, -, Sz8, Nn8, Hs8, -⟩ := id V0
  have hin8 : ¬ ((1 : Int32) < 0 ∨ cl8.slots.size ≤ ((1 : Int32)).toNatClampNeg) := inb_of Sz8 ⟨by decide, by decide⟩
  have hat8 : cl8.slots[((1 : Int32)).toNatClampNeg]? = some (.int w1) := Hs8.at hin8 rfl
  have go9 : Go p e below s₁ F0 s₁ (mkF m 17 #[vr a1, vj ((((((0 : Int64) ||| ((w3 &&& (255 : Int32)).toInt64)) <<< ((8 : Int32) &&& 0x3f).toInt64) ||| ((w2 &&& (255 : Int32)).toInt64)) <<< ((8 : Int32) &&& 0x3f).toInt64) ||| ((w1 &&& (255 : Int32)).toInt64)), .second, vi (0 : Int32)] [(.int (0 : Int32)), (.ref a1), (.long (((((((0 : Int64) ||| ((w3 &&& (255 : Int32)).toInt64)) <<< ((8 : Int32) &&& 0x3f).toInt64) ||| ((w2 &&& (255 : Int32)).toInt64)) <<< ((8 : Int32) &&& 0x3f).toInt64) ||| ((w1 &&& (255 : Int32)).toInt64)) <<< ((8 : Int32) &&& 0x3f).toInt64))]) := by
    intro t_ k_
    refine go7 t_ ?_
    refine o_baload X0 hx hZ e0 Ar8 hin8 hat8 (hb hby d2_17) ?_
    refine o_sipush X0 hx (hb hby d2_18) (v := 255) rfl ?_
    refine o_iand X0 hx (hb hby d2_21) ?_
    refine o_i2l X0 hx (hb hby d2_22) ?_
    refine o_lor X0 hx (hb hby d2_23) ?_
    refine o_lstoreN X0 hx (hb hby d2_24) (L' := #[vr a1, vj ((((((0 : Int64) ||| ((w3 &&& (255 : Int32)).toInt64)) <<< ((8 : Int32) &&& 0x3f).toInt64) ||| ((w2 &&& (255 : Int32)).toInt64)) <<< ((8 : Int32) &&& 0x3f).toInt64) ||| ((w1 &&& (255 : Int32)).toInt64)), .second, vi (1 : Int32)]) rfl ?_
    refine o_iinc X0 hx (hb hby d2_25) rfl (L' := #[vr a1, vj ((((((0 : Int64) ||| ((w3 &&& (255 : Int32)).toInt64)) <<< ((8 : Int32) &&& 0x3f).toInt64) ||| ((w2 &&& (255 : Int32)).toInt64)) <<< ((8 : Int32) &&& 0x3f).toInt64) ||| ((w1 &&& (255 : Int32)).toInt64)), .second, vi (0 : Int32)]) rfl ?_
    refine o_goto X0 hx (hb hby d2_28) (pc' := 7) rfl (by decide) ?_
    refine o_iloadN X0 hx (hb hby d2_7) rfl ?_
    refine o_ifNo X0 hx (hb hby d2_8) ((if0 _ _).trans (flt (by decide : ¬ ((0 : Int32) < (0 : Int32)))).1) ?_
    refine o_lloadN X0 hx (hb hby d2_11) rfl ?_
    refine o_bipush X0 hx (hb hby d2_12) (v := 8) rfl ?_
    refine o_lshl X0 hx (hb hby d2_14) ?_
    refine o_aloadN X0 hx (hb hby d2_15) rfl rfl ?_
    refine o_iloadN X0 hx (hb hby d2_16) rfl ?_
    exact k_
  obtain ⟨cl10, Ar10, -, Sz10, Nn10, Hs10, -⟩ := id V0
  have hin10 : ¬ ((0 : Int32) < 0 ∨ cl10.slots.size ≤ ((0 : Int32)).toNatClampNeg) := inb_of Sz10 ⟨by decide, by decide⟩
  have hat10 : cl10.slots[((0 : Int32)).toNatClampNeg]? = some (.int w0) := Hs10.at hin10 rfl
  have go11 : Go p e below s₁ F0 s₁ (mkF m 32 #[vr a1, vj ((((((((0 : Int64) ||| ((w3 &&& (255 : Int32)).toInt64)) <<< ((8 : Int32) &&& 0x3f).toInt64) ||| ((w2 &&& (255 : Int32)).toInt64)) <<< ((8 : Int32) &&& 0x3f).toInt64) ||| ((w1 &&& (255 : Int32)).toInt64)) <<< ((8 : Int32) &&& 0x3f).toInt64) ||| ((w0 &&& (255 : Int32)).toInt64)), .second, vi (-1 : Int32)] [(.long ((((((((0 : Int64) ||| ((w3 &&& (255 : Int32)).toInt64)) <<< ((8 : Int32) &&& 0x3f).toInt64) ||| ((w2 &&& (255 : Int32)).toInt64)) <<< ((8 : Int32) &&& 0x3f).toInt64) ||| ((w1 &&& (255 : Int32)).toInt64)) <<< ((8 : Int32) &&& 0x3f).toInt64) ||| ((w0 &&& (255 : Int32)).toInt64)))]) := by
    intro t_ k_
    refine go9 t_ ?_
    refine o_baload X0 hx hZ e0 Ar10 hin10 hat10 (hb hby d2_17) ?_
    refine o_sipush X0 hx (hb hby d2_18) (v := 255) rfl ?_
    refine o_iand X0 hx (hb hby d2_21) ?_
    refine o_i2l X0 hx (hb hby d2_22) ?_
    refine o_lor X0 hx (hb hby d2_23) ?_
    refine o_lstoreN X0 hx (hb hby d2_24) (L' := #[vr a1, vj ((((((((0 : Int64) ||| ((w3 &&& (255 : Int32)).toInt64)) <<< ((8 : Int32) &&& 0x3f).toInt64) ||| ((w2 &&& (255 : Int32)).toInt64)) <<< ((8 : Int32) &&& 0x3f).toInt64) ||| ((w1 &&& (255 : Int32)).toInt64)) <<< ((8 : Int32) &&& 0x3f).toInt64) ||| ((w0 &&& (255 : Int32)).toInt64)), .second, vi (0 : Int32)]) rfl ?_
    refine o_iinc X0 hx (hb hby d2_25) rfl (L' := #[vr a1, vj ((((((((0 : Int64) ||| ((w3 &&& (255 : Int32)).toInt64)) <<< ((8 : Int32) &&& 0x3f).toInt64) ||| ((w2 &&& (255 : Int32)).toInt64)) <<< ((8 : Int32) &&& 0x3f).toInt64) ||| ((w1 &&& (255 : Int32)).toInt64)) <<< ((8 : Int32) &&& 0x3f).toInt64) ||| ((w0 &&& (255 : Int32)).toInt64)), .second, vi (-1 : Int32)]) rfl ?_
    refine o_goto X0 hx (hb hby d2_28) (pc' := 7) rfl (by decide) ?_
    refine o_iloadN X0 hx (hb hby d2_7) rfl ?_
    refine o_ifYes X0 hx (hb hby d2_8) (pc' := 31) rfl (by decide) ((if0 _ _).trans (tlt (by decide : (-1 : Int32) < (0 : Int32))).1) ?_
    refine o_lloadN X0 hx (hb hby d2_31) rfl ?_
    exact k_
  obtain ⟨fs, hr, hrun, hended, hW, hsame⟩ := X0.leave (v := some (.long ((((((((0 : Int64) ||| ((w3 &&& (255 : Int32)).toInt64)) <<< ((8 : Int32) &&& 0x3f).toInt64) ||| ((w2 &&& (255 : Int32)).toInt64)) <<< ((8 : Int32) &&& 0x3f).toInt64) ||| ((w1 &&& (255 : Int32)).toInt64)) <<< ((8 : Int32) &&& 0x3f).toInt64) ||| ((w0 &&& (255 : Int32)).toInt64)))) (fun h => by rw [Bd.returns] at h; cases h)
  refine ⟨_, _, pre0 _ (go11 _ ?_), hrun, hended, _, _, rfl, ?_, ⟨_, rfl⟩, hW, hsame.mono (by decide) (by decide)⟩
  · skip
    exact retOut X0 hx Bd.returns rfl (Or.inr (Or.inl ⟨rfl, rfl, _, rfl⟩)) (hb hby d2_32) hr
  · show Q2_4 Z a1 k1 w0 w1 w2 w3 h0 n0 _ s₁.heap _
    rw [e0]
    exact ⟨(congrArg (fun z => some (Value.long z)) (show ((((((((0 : Int64) ||| ((w3 &&& (255 : Int32)).toInt64)) <<< ((8 : Int32) &&& 0x3f).toInt64) ||| ((w2 &&& (255 : Int32)).toInt64)) <<< ((8 : Int32) &&& 0x3f).toInt64) ||| ((w1 &&& (255 : Int32)).toInt64)) <<< ((8 : Int32) &&& 0x3f).toInt64) ||| ((w0 &&& (255 : Int32)).toInt64)) = f2_4 w0 w1 w2 w3 from by unfold f2_4; rfl)), N0, rfl⟩

theorem d1_61 : decode method_2_code 61 = .ok (.aload_n 3, 1) := by decide +kernel
theorem d1_62 : decode method_2_code 62 = .ok (.iconst 4, 1) := by decide +kernel
theorem d1_63 : decode method_2_code 63 = .ok (.lload_n 0, 1) := by decide +kernel
theorem d1_64 : decode method_2_code 64 = .ok (.bipush 32, 2) := by decide +kernel
theorem d1_66 : decode method_2_code 66 = .ok (.lushr, 1) := by decide +kernel
theorem d1_67 : decode method_2_code 67 = .ok (.l2i, 1) := by decide +kernel
theorem d1_68 : decode method_2_code 68 = .ok (.i2b, 1) := by decide +kernel
theorem d1_69 : decode method_2_code 69 = .ok (.bastore, 1) := by decide +kernel
theorem pn_1_5 : plainName "com/example/ledgerline/ledgerline/compression/BlockInputStreamLittleEndianPinLaw" = true := by first | (simp [plainName, overriddenIn]; done) | decide +kernel
theorem ef_1_5 (m : MethodId) (x0 : Int64) : entryFrame m #[(.long x0), (.int (5 : Int32))] 4 = mkF m 0 #[vj x0, .second, vi (5 : Int32), .unset] [] := by first | (simp [entryFrame, mkF, argsToLocals, Value.category]; done) | rfl
def Q1_5 (Z : State) (q1 : Int64) (h0 : Heap) (n0 : Nat) (v : Option Value) (h : Heap) (L : List Loc) : Prop := ∃ b : Addr, ∃ kb : ClassId, v = some (.ref b) ∧ Fr n0 L ∧ Keep h0 h [] ∧ h0.size ≤ b ∧ Arv Z h b kb .byte (5 : Int32) [(.int ((q1.toInt32).toInt8.toInt32)), (.int ((((q1.toUInt64 >>> ((8 : Int32) &&& 0x3f).toInt64.toUInt64).toInt64).toInt32).toInt8.toInt32)), (.int ((((q1.toUInt64 >>> ((16 : Int32) &&& 0x3f).toInt64.toUInt64).toInt64).toInt32).toInt8.toInt32)), (.int ((((q1.toUInt64 >>> ((24 : Int32) &&& 0x3f).toInt64.toUInt64).toInt64).toInt32).toInt8.toInt32)), (.int ((((q1.toUInt64 >>> ((32 : Int32) &&& 0x3f).toInt64.toUInt64).toInt64).toInt32).toInt8.toInt32))] (.int (0 : Int32))
set_option maxRecDepth 65536 in
set_option maxHeartbeats 40000000 in
theorem rm1_5 (l : Launch) (Z : State) (a0 : Array Value) (hw : ∀ d ∈ tables_1, d.before a0 Z = true) (ws : List Jvm.Cond) (q1 : Int64) (h0 : Heap) (n0 : Nat) (Z0 : n0 ≤ h0.size) :
    MetFree l y_0 (head1 (Jvm.Cond.code y_0 method_2_code 4 (some (.array .byte)) :: ws) ({ frames := 0, cells := 1, slots := 5, locals := 0 } : Room)) (fun a U => a = #[(.long q1), (.int (5 : Int32))] ∧ Z.Warmed39 U.vm ∧ U.heap = h0) (fun _ _ _ _ _ => True) (fun _ U o U' => ∃ v L, o = .returned v ∧ Q1_5 Z q1 h0 n0 v U'.heap L ∧ FrameEnd U o U' L ({ frames := 0, cells := 1, slots := 5, locals := 0 } : Room).cells ({ frames := 0, cells := 1, slots := 5, locals := 0 } : Room).slots) := by
  refine MetFree.of_bodySF (plainFor_of_name pn_1_5) hisR ?_
  intro p e s m args below meth c s₁ Bd hml0 hP hK
  obtain ⟨rfl, hZ, hh⟩ := hP
  have hx := Bd.exec
  have hby := Bd.bytes
  have hml : c.maxLocals = 4 := hml0
  have hown : s.vm.findClass "com/example/ledgerline/ledgerline/compression/BlockInputStreamLittleEndianPinLaw" = some m.cls := findClass_of_methodNamed Bd.named
  have hnm := (name_of_methodNamed Bd.named Bd.method).1
  have X0 : Stand p l e ({ frames := 0, cells := 1, slots := 5, locals := 0 } : Room) s m #[(.long q1), (.int (5 : Int32))] below meth c s₁ [] 0 0 := Stand.of_body Bd
  have e0 : s₁.heap = h0 := by rw [← hh, Bd.state]; rfl
  have N0 := Fr.nil n0
  have K0 : Keep h0 h0 [] := Keep.refl h0 []
  obtain ⟨F0, hF0⟩ : ∃ F : JFrame, F = entryFrame m #[(.long q1), (.int (5 : Int32))] 4 := ⟨_, rfl⟩
  have pre0 : ∀ t, Steps p.tables e below (s₁.setTop F0) t → Steps p.tables e below (s₁.setTop (entryFrame m #[(.long q1), (.int (5 : Int32))] 4)) t := fun t k => hF0 ▸ k
  have go0 : Go p e below s₁ F0 s₁ (mkF m 0 #[vj q1, .second, vi (5 : Int32), .unset] []) := fun t k => castTop (hF0.trans (ef_1_5 m q1)) k
  have go1 : Go p e below s₁ F0 s₁ (mkF m 1 #[vj q1, .second, vi (5 : Int32), .unset] [(.int (5 : Int32))]) := by
    intro t_ k_
    refine go0 t_ ?_
    refine o_iloadN X0 hx (hb hby d1_0) rfl ?_
    exact k_
  obtain ⟨T2, h2, k2, X2, e2, E2, A2, st2⟩ := newP X0 hx hZ (own_w hw 5 rfl) e0 (g := (mkF m 1 #[vj q1, .second, vi (5 : Int32), .unset] [(.int (5 : Int32))])) rfl (hb hby d1_1) rfl (by decide) (cap := 5) (by decide) (by decide) (by decide) (by decide)
  obtain ⟨b2, gz2⟩ : ∃ z, z = h0.size := ⟨_, rfl⟩
  rw [← gz2] at A2 st2
  have g_b2 : n0 ≤ b2 := Nat.le_trans Z0 (Nat.le_of_eq gz2.symm)
  have sz_b2 : h0.size ≤ b2 := Nat.le_trans K0.1 (Nat.le_of_eq gz2.symm)
  have K3 : Keep h0 h2 [] := K0.ext E2
  have Z3 : n0 ≤ h2.size := Nat.le_trans Z0 E2.1
  have V2 : Arv Z h2 b2 k2 .byte (5 : Int32) [(.int (0 : Int32)), (.int (0 : Int32)), (.int (0 : Int32)), (.int (0 : Int32)), (.int (0 : Int32))] (.int (0 : Int32)) := (Arv.new A2 (by decide)).pad (pad_rep [] (.int (0 : Int32)) 5)
  have go4 : Go p e below s₁ F0 T2 (mkF m 3 #[vj q1, .second, vi (5 : Int32), .unset] [(.ref b2)]) := fun t_ k_ => go1 t_ (st2 t_ k_)
  have go5 : Go p e below s₁ F0 T2 (mkF m 13 #[vj q1, .second, vi (5 : Int32), vr b2] [(.int ((q1.toInt32).toInt8.toInt32)), (.int (0 : Int32)), (.ref b2)]) := by
    intro t_ k_
    refine go4 t_ ?_
    refine o_astoreN X2 hx (hb hby d1_3) rfl (L' := #[vj q1, .second, vi (5 : Int32), vr b2]) rfl ?_
    refine o_iloadN X2 hx (hb hby d1_4) rfl ?_
    refine o_ifNo X2 hx (hb hby d1_5) ((if0 _ _).trans (tlt (by decide : (0 : Int32) < (5 : Int32))).2.2.2) ?_
    refine o_aloadN X2 hx (hb hby d1_8) rfl rfl ?_
    refine o_iconst X2 hx (hb hby d1_9) (v := 0) rfl ?_
    refine o_lloadN X2 hx (hb hby d1_10) rfl ?_
    refine o_l2i X2 hx (hb hby d1_11) ?_
    refine o_i2b X2 hx (hb hby d1_12) ?_
    exact k_
  obtain ⟨cl6, Ar6, q6, Sz6, Nn6, Hs6, G6⟩ := id V2
  have hin6 : ¬ ((0 : Int32) < 0 ∨ cl6.slots.size ≤ ((0 : Int32)).toNatClampNeg) := inb_of Sz6 ⟨by decide, by decide⟩
  obtain ⟨T6, h6, X6, e6, W6, st6⟩ := stB X2 hx hZ e2 Ar6 (j := (0 : Int32)) hin6 (g := (mkF m 13 #[vj q1, .second, vi (5 : Int32), vr b2] [(.int ((q1.toInt32).toInt8.toInt32)), (.int (0 : Int32)), (.ref b2)])) rfl rfl (hb hby d1_13)
  rw [own_nar_byte] at W6
  have V6 : Arv Z h6 b2 k2 .byte (5 : Int32) [(.int ((q1.toInt32).toInt8.toInt32)), (.int (0 : Int32)), (.int (0 : Int32)), (.int (0 : Int32)), (.int (0 : Int32))] (.int (0 : Int32)) := Arv.set Ar6 q6 Sz6 Nn6 Hs6 G6 (fits_nar_byte _) W6 0 rfl (Nat.le_of_ble_eq_true rfl)
  have K7 : Keep h0 h6 [] := K3.wr W6 (Or.inr sz_b2)
  have Z7 : n0 ≤ h6.size := Nat.le_trans Z3 (Keep.of_wr W6).1
  have N6 := Fr.snoc X6 N0 g_b2
  have go8 : Go p e below s₁ F0 T6 (mkF m 14 #[vj q1, .second, vi (5 : Int32), vr b2] []) := fun t_ k_ => go5 t_ (st6 t_ k_)
  have go9 : Go p e below s₁ F0 T6 (mkF m 27 #[vj q1, .second, vi (5 : Int32), vr b2] [(.int ((((q1.toUInt64 >>> ((8 : Int32) &&& 0x3f).toInt64.toUInt64).toInt64).toInt32).toInt8.toInt32)), (.int (1 : Int32)), (.ref b2)]) := by
    intro t_ k_
    refine go8 t_ ?_
    refine o_iloadN X6 hx (hb hby d1_14) rfl ?_
    refine o_iconst X6 hx (hb hby d1_15) (v := 1) rfl ?_
    refine o_icmpNo X6 hx (hb hby d1_16) (tlt (by decide : (1 : Int32) < (5 : Int32))).2.2.2 ?_
    refine o_aloadN X6 hx (hb hby d1_19) rfl rfl ?_
    refine o_iconst X6 hx (hb hby d1_20) (v := 1) rfl ?_
    refine o_lloadN X6 hx (hb hby d1_21) rfl ?_
    refine o_bipush X6 hx (hb hby d1_22) (v := 8) rfl ?_
    refine o_lushr X6 hx (hb hby d1_24) ?_
    refine o_l2i X6 hx (hb hby d1_25) ?_
    refine o_i2b X6 hx (hb hby d1_26) ?_
    exact k_
  obtain ⟨cl10, Ar10, q10, Sz10, Nn10, Hs10, G10⟩ := id V6
  have hin10 : ¬ ((1 : Int32) < 0 ∨ cl10.slots.size ≤ ((1 : Int32)).toNatClampNeg) := inb_of Sz10 ⟨by decide, by decide⟩
  obtain ⟨T10, h10, X10, e10, W10, st10⟩ := stB X6 hx hZ e6 Ar10 (j := (1 : Int32)) hin10 (g := (mkF m 27 #[vj q1, .second, vi (5 : Int32), vr b2] [(.int ((((q1.toUInt64 >>> ((8 : Int32) &&& 0x3f).toInt64.toUInt64).toInt64).toInt32).toInt8.toInt32)), (.int (1 : Int32)), (.ref b2)])) rfl rfl (hb hby d1_27)
  rw [own_nar_byte] at W10
  have V10 : Arv Z h10 b2 k2 .byte (5 : Int32) [(.int ((q1.toInt32).toInt8.toInt32)), (.int ((((q1.toUInt64 >>> ((8 : Int32) &&& 0x3f).toInt64.toUInt64).toInt64).toInt32).toInt8.toInt32)), (.int (0 : Int32)), (.int (0 : Int32)), (.int (0 : Int32))] (.int (0 : Int32)) := Arv.set Ar10 q10 Sz10 Nn10 Hs10 G10 (fits_nar_byte _) W10 1 rfl (Nat.le_of_ble_eq_true rfl)
  have K11 : Keep h0 h10 [] := K7.wr W10 (Or.inr sz_b2)
  have Z11 : n0 ≤ h10.size := Nat.le_trans Z7 (Keep.of_wr W10).1
  have N10 := Fr.snoc X10 N6 g_b2
  have go12 : Go p e below s₁ F0 T10 (mkF m 28 #[vj q1, .second, vi (5 : Int32), vr b2] []) := fun t_ k_ => go9 t_ (st10 t_ k_)
  have go13 : Go p e below s₁ F0 T10 (mkF m 41 #[vj q1, .second, vi (5 : Int32), vr b2] [(.int ((((q1.toUInt64 >>> ((16 : Int32) &&& 0x3f).toInt64.toUInt64).toInt64).toInt32).toInt8.toInt32)), (.int (2 : Int32)), (.ref b2)]) := by
    intro t_ k_
    refine go12 t_ ?_
    refine o_iloadN X10 hx (hb hby d1_28) rfl ?_
    refine o_iconst X10 hx (hb hby d1_29) (v := 2) rfl ?_
    refine o_icmpNo X10 hx (hb hby d1_30) (tlt (by decide : (2 : Int32) < (5 : Int32))).2.2.2 ?_
    refine o_aloadN X10 hx (hb hby d1_33) rfl rfl ?_
    refine o_iconst X10 hx (hb hby d1_34) (v := 2) rfl ?_
    refine o_lloadN X10 hx (hb hby d1_35) rfl ?_
    refine o_bipush X10 hx (hb hby d1_36) (v := 16) rfl ?_
    refine o_lushr X10 hx (hb hby d1_38) ?_
    refine o_l2i X10 hx (hb hby d1_39) ?_
    refine o_i2b X10 hx (hb hby d1_40) ?_
    exact k_
  obtain ⟨cl14, Ar14, q14, Sz14, Nn14, Hs14, G14⟩ := id V10
  have hin14 : ¬ ((2 : Int32) < 0 ∨ cl14.slots.size ≤ ((2 : Int32)).toNatClampNeg) := inb_of Sz14 ⟨by decide, by decide⟩
  obtain ⟨T14, h14, X14, e14, W14, st14⟩ := stB X10 hx hZ e10 Ar14 (j := (2 : Int32)) hin14 (g := (mkF m 41 #[vj q1, .second, vi (5 : Int32), vr b2] [(.int ((((q1.toUInt64 >>> ((16 : Int32) &&& 0x3f).toInt64.toUInt64).toInt64).toInt32).toInt8.toInt32)), (.int (2 : Int32)), (.ref b2)])) rfl rfl (hb hby d1_41)
  rw [own_nar_byte] at W14
  have V14 : Arv Z h14 b2 k2 .byte (5 : Int32) [(.int ((q1.toInt32).toInt8.toInt32)), (.int ((((q1.toUInt64 >>> ((8 : Int32) &&& 0x3f).toInt64.toUInt64).toInt64).toInt32).toInt8.toInt32)), (.int ((((q1.toUInt64 >>> ((16 : Int32) &&& 0x3f).toInt64.toUInt64).toInt64).toInt32).toInt8.toInt32)), (.int (0 : Int32)), (.int (0 : Int32))] (.int (0 : Int32)) := Arv.set Ar14 q14 Sz14 Nn14 Hs14 G14 (fits_nar_byte _) W14 2 rfl (Nat.le_of_ble_eq_true rfl)
  have K15 : Keep h0 h14 [] := K11.wr W14 (Or.inr sz_b2)
  have Z15 : n0 ≤ h14.size := Nat.le_trans Z11 (Keep.of_wr W14).1
  have N14 := Fr.snoc X14 N10 g_b2
  have go16 : Go p e below s₁ F0 T14 (mkF m 42 #[vj q1, .second, vi (5 : Int32), vr b2] []) := fun t_ k_ => go13 t_ (st14 t_ k_)
  have go17 : Go p e below s₁ F0 T14 (mkF m 55 #[vj q1, .second, vi (5 : Int32), vr b2] [(.int ((((q1.toUInt64 >>> ((24 : Int32) &&& 0x3f).toInt64.toUInt64).toInt64).toInt32).toInt8.toInt32)), (.int (3 : Int32)), (.ref b2)]) := by
    intro t_ k_
    refine go16 t_ ?_
    refine o_iloadN X14 hx (hb hby d1_42) rfl ?_
    refine o_iconst X14 hx (hb hby d1_43) (v := 3) rfl ?_
    refine o_icmpNo X14 hx (hb hby d1_44) (tlt (by decide : (3 : Int32) < (5 : Int32))).2.2.2 ?_
    refine o_aloadN X14 hx (hb hby d1_47) rfl rfl ?_
    refine o_iconst X14 hx (hb hby d1_48) (v := 3) rfl ?_
    refine o_lloadN X14 hx (hb hby d1_49) rfl ?_
    refine o_bipush X14 hx (hb hby d1_50) (v := 24) rfl ?_
    refine o_lushr X14 hx (hb hby d1_52) ?_
    refine o_l2i X14 hx (hb hby d1_53) ?_
    refine o_i2b X14 hx (hb hby d1_54) ?_
    exact k_
  obtain ⟨cl18, Ar18, q18, Sz18, Nn18, Hs18, G18⟩ := id V14
  have hin18 : ¬ ((3 : Int32) < 0 ∨ cl18.slots.size ≤ ((3 : Int32)).toNatClampNeg) := inb_of Sz18 ⟨by decide, by decide⟩
  obtain ⟨T18, h18, X18, e18, W18, st18⟩ := stB X14 hx hZ e14 Ar18 (j := (3 : Int32)) hin18 (g := (mkF m 55 #[vj q1, .second, vi (5 : Int32), vr b2] [(.int ((((q1.toUInt64 >>> ((24 : Int32) &&& 0x3f).toInt64.toUInt64).toInt64).toInt32).toInt8.toInt32)), (.int (3 : Int32)), (.ref b2)])) rfl rfl (hb hby d1_55)
  rw [own_nar_byte] at W18
  have V18 : Arv Z h18 b2 k2 .byte (5 : Int32) [(.int ((q1.toInt32).toInt8.toInt32)), (.int ((((q1.toUInt64 >>> ((8 : Int32) &&& 0x3f).toInt64.toUInt64).toInt64).toInt32).toInt8.toInt32)), (.int ((((q1.toUInt64 >>> ((16 : Int32) &&& 0x3f).toInt64.toUInt64).toInt64).toInt32).toInt8.toInt32)), (.int ((((q1.toUInt64 >>> ((24 : Int32) &&& 0x3f).toInt64.toUInt64).toInt64).toInt32).toInt8.toInt32)), (.int (0 : Int32))] (.int (0 : Int32)) := Arv.set Ar18 q18 Sz18 Nn18 Hs18 G18 (fits_nar_byte _) W18 3 rfl (Nat.le_of_ble_eq_true rfl)
  have K19 : Keep h0 h18 [] := K15.wr W18 (Or.inr sz_b2)
  have Z19 : n0 ≤ h18.size := Nat.le_trans Z15 (Keep.of_wr W18).1
  have N18 := Fr.snoc X18 N14 g_b2
  have go20 : Go p e below s₁ F0 T18 (mkF m 56 #[vj q1, .second, vi (5 : Int32), vr b2] []) := fun t_ k_ => go17 t_ (st18 t_ k_)
  have go21 : Go p e below s₁ F0 T18 (mkF m 69 #[vj q1, .second, vi (5 : Int32), vr b2] [(.int ((((q1.toUInt64 >>> ((32 : Int32) &&& 0x3f).toInt64.toUInt64).toInt64).toInt32).toInt8.toInt32)), (.int (4 : Int32)), (.ref b2)]) := by
    intro t_ k_
    refine go20 t_ ?_
    refine o_iloadN X18 hx (hb hby d1_56) rfl ?_
    refine o_iconst X18 hx (hb hby d1_57) (v := 4) rfl ?_
    refine o_icmpNo X18 hx (hb hby d1_58) (tlt (by decide : (4 : Int32) < (5 : Int32))).2.2.2 ?_
    refine o_aloadN X18 hx (hb hby d1_61) rfl rfl ?_
    refine o_iconst X18 hx (hb hby d1_62) (v := 4) rfl ?_
    refine o_lloadN X18 hx (hb hby d1_63) rfl ?_
    refine o_bipush X18 hx (hb hby d1_64) (v := 32) rfl ?_
    refine o_lushr X18 hx (hb hby d1_66) ?_
    refine o_l2i X18 hx (hb hby d1_67) ?_
    refine o_i2b X18 hx (hb hby d1_68) ?_
    exact k_
  obtain ⟨cl22, Ar22, q22, Sz22, Nn22, Hs22, G22⟩ := id V18
  have hin22 : ¬ ((4 : Int32) < 0 ∨ cl22.slots.size ≤ ((4 : Int32)).toNatClampNeg) := inb_of Sz22 ⟨by decide, by decide⟩
  obtain ⟨T22, h22, X22, e22, W22, st22⟩ := stB X18 hx hZ e18 Ar22 (j := (4 : Int32)) hin22 (g := (mkF m 69 #[vj q1, .second, vi (5 : Int32), vr b2] [(.int ((((q1.toUInt64 >>> ((32 : Int32) &&& 0x3f).toInt64.toUInt64).toInt64).toInt32).toInt8.toInt32)), (.int (4 : Int32)), (.ref b2)])) rfl rfl (hb hby d1_69)
  rw [own_nar_byte] at W22
  have V22 : Arv Z h22 b2 k2 .byte (5 : Int32) [(.int ((q1.toInt32).toInt8.toInt32)), (.int ((((q1.toUInt64 >>> ((8 : Int32) &&& 0x3f).toInt64.toUInt64).toInt64).toInt32).toInt8.toInt32)), (.int ((((q1.toUInt64 >>> ((16 : Int32) &&& 0x3f).toInt64.toUInt64).toInt64).toInt32).toInt8.toInt32)), (.int ((((q1.toUInt64 >>> ((24 : Int32) &&& 0x3f).toInt64.toUInt64).toInt64).toInt32).toInt8.toInt32)), (.int ((((q1.toUInt64 >>> ((32 : Int32) &&& 0x3f).toInt64.toUInt64).toInt64).toInt32).toInt8.toInt32))] (.int (0 : Int32)) := Arv.set Ar22 q22 Sz22 Nn22 Hs22 G22 (fits_nar_byte _) W22 4 rfl (Nat.le_of_ble_eq_true rfl)
  have K23 : Keep h0 h22 [] := K19.wr W22 (Or.inr sz_b2)
  have Z23 : n0 ≤ h22.size := Nat.le_trans Z19 (Keep.of_wr W22).1
  have N22 := Fr.snoc X22 N18 g_b2
  have go24 : Go p e below s₁ F0 T22 (mkF m 70 #[vj q1, .second, vi (5 : Int32), vr b2] []) := fun t_ k_ => go21 t_ (st22 t_ k_)
  have go25 : Go p e below s₁ F0 T22 (mkF m 117 #[vj q1, .second, vi (5 : Int32), vr b2] [(.ref b2)]) := by
    intro t_ k_
    refine go24 t_ ?_
    refine o_iloadN X22 hx (hb hby d1_70) rfl ?_
    refine o_iconst X22 hx (hb hby d1_71) (v := 5) rfl ?_
    refine o_icmpYes X22 hx (hb hby d1_72) (pc' := 84) rfl (by decide) (flt (by decide : ¬ ((5 : Int32) < (5 : Int32)))).2.2.2 ?_
    refine o_iloadN X22 hx (hb hby d1_84) rfl ?_
    refine o_bipush X22 hx (hb hby d1_85) (v := 6) rfl ?_
    refine o_icmpYes X22 hx (hb hby d1_87) (pc' := 100) rfl (by decide) (flt (by decide : ¬ ((6 : Int32) < (5 : Int32)))).2.2.2 ?_
    refine o_iloadN X22 hx (hb hby d1_100) rfl ?_
    refine o_bipush X22 hx (hb hby d1_101) (v := 7) rfl ?_
    refine o_icmpYes X22 hx (hb hby d1_103) (pc' := 116) rfl (by decide) (flt (by decide : ¬ ((7 : Int32) < (5 : Int32)))).2.2.2 ?_
    refine o_aloadN X22 hx (hb hby d1_116) rfl rfl ?_
    exact k_
  obtain ⟨fs, hr, hrun, hended, hW, hsame⟩ := X22.leave (v := some (.ref b2)) (fun h => by rw [Bd.returns] at h; cases h)
  refine ⟨_, _, pre0 _ (go25 _ ?_), hrun, hended, _, _, rfl, ?_, ⟨_, rfl⟩, hW, hsame.mono (by decide) (by decide)⟩
  · skip
    exact retOut X22 hx Bd.returns rfl (Or.inr (Or.inr (Or.inr (Or.inr ⟨rfl, rfl, rfl⟩)))) (hb hby d1_117) hr
  · show Q1_5 Z q1 h0 n0 _ T22.heap _
    rw [e22]
    exact ⟨b2, k2, rfl, N22, K23, sz_b2, V22⟩

theorem pn_2_5 : plainName "com/example/ledgerline/ledgerline/compression/BlockInputStream" = true := by first | (simp [plainName, overriddenIn]; done) | decide +kernel
theorem ef_2_5 (m : MethodId) (x0 : Addr) : entryFrame m #[(.ref x0)] 4 = mkF m 0 #[vr x0, .unset, .unset, .unset] [] := by first | (simp [entryFrame, mkF, argsToLocals, Value.category]; done) | rfl
def f2_5 (w0 : Int32) (w1 : Int32) (w2 : Int32) (w3 : Int32) (w4 : Int32) : Int64 := ((((((((((0 : Int64) ||| ((w4 &&& (255 : Int32)).toInt64)) <<< ((8 : Int32) &&& 0x3f).toInt64) ||| ((w3 &&& (255 : Int32)).toInt64)) <<< ((8 : Int32) &&& 0x3f).toInt64) ||| ((w2 &&& (255 : Int32)).toInt64)) <<< ((8 : Int32) &&& 0x3f).toInt64) ||| ((w1 &&& (255 : Int32)).toInt64)) <<< ((8 : Int32) &&& 0x3f).toInt64) ||| ((w0 &&& (255 : Int32)).toInt64))
def Q2_5 (Z : State) (a1 : Addr) (k1 : ClassId) (w0 : Int32) (w1 : Int32) (w2 : Int32) (w3 : Int32) (w4 : Int32) (h0 : Heap) (n0 : Nat) (v : Option Value) (h : Heap) (L : List Loc) : Prop := v = some (.long (f2_5 w0 w1 w2 w3 w4)) ∧ Fr n0 L ∧ h = h0
set_option maxRecDepth 65536 in
set_option maxHeartbeats 40000000 in
theorem rm2_5 (l : Launch) (Z : State) (a0 : Array Value) (hw : ∀ d ∈ tables_1, d.before a0 Z = true) (ws : List Jvm.Cond) (a1 : Addr) (k1 : ClassId) (w0 : Int32) (w1 : Int32) (w2 : Int32) (w3 : Int32) (w4 : Int32) (h0 : Heap) (n0 : Nat) (Z0 : n0 ≤ h0.size) (V0 : Arv Z h0 a1 k1 .byte (5 : Int32) [(.int w0), (.int w1), (.int w2), (.int w3), (.int w4)] (.int (0 : Int32))) :
    MetFree l y_1 (head1 (Jvm.Cond.code y_1 prog_3_method_9_code 4 (some .long) :: ws) ({ frames := 0, cells := 0, slots := 0, locals := 0 } : Room)) (fun a U => a = #[(.ref a1)] ∧ Z.Warmed39 U.vm ∧ U.heap = h0) (fun _ _ _ _ _ => True) (fun _ U o U' => ∃ v L, o = .returned v ∧ Q2_5 Z a1 k1 w0 w1 w2 w3 w4 h0 n0 v U'.heap L ∧ FrameEnd U o U' L ({ frames := 0, cells := 0, slots := 0, locals := 0 } : Room).cells ({ frames := 0, cells := 0, slots := 0, locals := 0 } : Room).slots) := by
  refine MetFree.of_bodySF (plainFor_of_name pn_2_5) hisR ?_
  intro p e s m args below meth c s₁ Bd hml0 hP hK
  obtain ⟨rfl, hZ, hh⟩ := hP
  have hx := Bd.exec
  have hby := Bd.bytes
  have hml : c.maxLocals = 4 := hml0
  have hown : s.vm.findClass "com/example/ledgerline/ledgerline/compression/BlockInputStream" = some m.cls := findClass_of_methodNamed Bd.named
  have hnm := (name_of_methodNamed Bd.named Bd.method).1
  have X0 : Stand p l e ({ frames := 0, cells := 0, slots := 0, locals := 0 } : Room) s m #[(.ref a1)] below meth c s₁ [] 0 0 := Stand.of_body Bd
  have e0 : s₁.heap = h0 := by rw [← hh, Bd.state]; rfl
  have N0 := Fr.nil n0
  obtain ⟨F0, hF0⟩ : ∃ F : JFrame, F = entryFrame m #[(.ref a1)] 4 := ⟨_, rfl⟩
  have pre0 : ∀ t, Steps p.tables e below (s₁.setTop F0) t → Steps p.tables e below (s₁.setTop (entryFrame m #[(.ref a1)] 4)) t := fun t k => hF0 ▸ k
  have go0 : Go p e below s₁ F0 s₁ (mkF m 0 #[vr a1, .unset, .unset, .unset] []) := fun t k => castTop (hF0.trans (ef_2_5 m a1)) k
  have go1 : Go p e below s₁ F0 s₁ (mkF m 3 #[vr a1, vj (0 : Int64), .second, .unset] [(.ref a1)]) := by
    intro t_ k_
    refine go0 t_ ?_
    refine o_lconst X0 hx (hb hby d2_0) (v := 0) rfl ?_
    refine o_lstoreN X0 hx (hb hby d2_1) (L' := #[vr a1, vj (0 : Int64), .second, .unset]) rfl ?_
    refine o_aloadN X0 hx (hb hby d2_2) rfl rfl ?_
    exact k_
  obtain ⟨cl2, Ar2, -, Sz2, Nn2, -, -⟩ := id V0
  have go3 : Go p e below s₁ F0 s₁ (mkF m 17 #[vr a1, vj (0 : Int64), .second, vi (4 : Int32)] [(.int (4 : Int32)), (.ref a1), (.long (0 : Int64))]) := by
    intro t_ k_
    refine go1 t_ ?_
    refine o_len X0 hx hZ e0 Ar2 Sz2 Nn2 (hb hby d2_3) ?_
    refine o_iconst X0 hx (hb hby d2_4) (v := 1) rfl ?_
    refine o_isubE X0 hx (hb hby d2_5) (v := 4) rfl ?_
    refine o_istoreN X0 hx (hb hby d2_6) (L' := #[vr a1, vj (0 : Int64), .second, vi (4 : Int32)]) rfl ?_
    refine o_iloadN X0 hx (hb hby d2_7) rfl ?_
    refine o_ifNo X0 hx (hb hby d2_8) ((if0 _ _).trans (flt (by decide : ¬ ((4 : Int32) < (0 : Int32)))).1) ?_
    refine o_lloadN X0 hx (hb hby d2_11) rfl ?_
    refine o_bipush X0 hx (hb hby d2_12) (v := 8) rfl ?_
    refine o_lshlE X0 hx (hb hby d2_14) (v := 0) rfl ?_
    refine o_aloadN X0 hx (hb hby d2_15) rfl rfl ?_
    refine o_iloadN X0 hx (hb hby d2_16) rfl ?_
    exact k_
  obtain ⟨cl4, Ar4, -, Sz4, Nn4, Hs4, -⟩ := id V0
  have hin4 : ¬ ((4 : Int32) < 0 ∨ cl4.slots.size ≤ ((4 : Int32)).toNatClampNeg) := inb_of Sz4 ⟨by decide, by decide⟩
  have hat4 : cl4.slots[((4 : Int32)).toNatClampNeg]? = some (.int w4) := Hs4.at hin4 rfl
  have go5 : Go p e below s₁ F0 s₁ (mkF m 17 #[vr a1, vj ((0 : Int64) ||| ((w4 &&& (255 : Int32)).toInt64)), .second, vi (3 : Int32)] [(.int (3 : Int32)), (.ref a1), (.long (((0 : Int64) ||| ((w4 &&& (255 : Int32)).toInt64)) <<< ((8 : Int32) &&& 0x3f).toInt64))]) := by
    intro t_ k_
    refine go3 t_ ?_
    refine o_baload X0 hx hZ e0 Ar4 hin4 hat4 (hb hby d2_17) ?_
    refine o_sipush X0 hx (hb hby d2_18) (v := 255) rfl ?_
    refine o_iand X0 hx (hb hby d2_21) ?_
    refine o_i2l X0 hx (hb hby d2_22) ?_
    refine o_lor X0 hx (hb hby d2_23) ?_
    refine o_lstoreN X0 hx (hb hby d2_24) (L' := #[vr a1, vj ((0 : Int64) ||| ((w4 &&& (255 : Int32)).toInt64)), .second, vi (4 : Int32)]) rfl ?_
    refine o_iinc X0 hx (hb hby d2_25) rfl (L' := #[vr a1, vj ((0 : Int64) ||| ((w4 &&& (255 : Int32)).toInt64)), .second, vi (3 : Int32)]) rfl ?_
    refine o_goto X0 hx (hb hby d2_28) (pc' := 7) rfl (by decide) ?_
    refine o_iloadN X0 hx (hb hby d2_7) rfl ?_
    refine o_ifNo X0 hx (hb hby d2_8) ((if0 _ _).trans (flt (by decide : ¬ ((3 : Int32) < (0 : Int32)))).1) ?_
    refine o_lloadN X0 hx (hb hby d2_11) rfl ?_
    refine o_bipush X0 hx (hb hby d2_12) (v := 8) rfl ?_
    refine o_lshl X0 hx (hb hby d2_14) ?_
    refine o_aloadN X0 hx (hb hby d2_15) rfl rfl ?_
    refine o_iloadN X0 hx (hb hby d2_16) rfl ?_
    exact k_
  obtain ⟨cl6, Ar6, -, Sz6, Nn6, Hs6, -⟩ := id V0
  have hin6 : ¬ ((3 : Int32) < 0 ∨ cl6.slots.size ≤ ((3 : Int32)).toNatClampNeg) := inb_of Sz6 ⟨by decide, by decide⟩
  have hat6 : cl6.slots[((3 : Int32)).toNatClampNeg]? = some (.int w3) := Hs6.at hin6 rfl
  have go7 : Go p e below s₁ F0 s₁ (mkF m 17 #[vr a1, vj ((((0 : Int64) ||| ((w4 &&& (255 : Int32)).toInt64)) <<< ((8 : Int32) &&& 0x3f).toInt64) ||| ((w3 &&& (255 : Int32)).toInt64)), .second, vi (2 : Int32)] [(.int (2 : Int32)), (.ref a1), (.long (((((0 : Int64) ||| ((w4 &&& (255 : Int32)).toInt64)) <<< ((8 : Int32) &&& 0x3f).toInt64) ||| ((w3 &&& (255 : Int32)).toInt64)) <<< ((8 : Int32) &&& 0x3f).toInt64))]) := by
    intro t_ k_
    refine go5 t_ ?_
    refine o_baload X0 hx hZ e0 Ar6 hin6 hat6 (hb hby d2_17) ?_
    refine o_sipush X0 hx (hb hby d2_18) (v := 255) rfl ?_
    refine o_iand X0 hx (hb hby d2_21) ?_
    refine o_i2l X0 hx (hb hby d2_22) ?_
    refine o_lor X0 hx (hb hby d2_23) ?_
    refine o_lstoreN X0 hx (hb hby d2_24) (L' := #[vr a1, vj ((((0 : Int64) ||| ((w4 &&& (255 : Int32)).toInt64)) <<< ((8 : Int32) &&& 0x3f).toInt64) ||| ((w3 &&& (255 : Int32)).toInt64)), .second, vi (3 : Int32)]) rfl ?_
    refine o_iinc X0 hx (hb hby d2_25) rfl (L' := #[vr a1, vj ((((0 : Int64) ||| ((w4 &&& (255 : Int32)).toInt64)) <<< ((8 : Int32) &&& 0x3f).toInt64) ||| ((w3 &&& (255 : Int32)).toInt64)), .second, vi (2 : Int32)]) rfl ?_
    refine o_goto X0 hx (hb hby d2_28) (pc' := 7) rfl (by decide) ?_
    refine o_iloadN X0 hx (hb hby d2_7) rfl ?_
    refine o_ifNo X0 hx (hb hby d2_8) ((if0 _ _).trans (flt (by decide : ¬ ((2 : Int32) < (0 : Int32)))).1) ?_
    refine o_lloadN X0 hx (hb hby d2_11) rfl ?_
    refine o_bipush X0 hx (hb hby d2_12) (v := 8) rfl ?_
    refine o_lshl X0 hx (hb hby d2_14) ?_
    refine o_aloadN X0 hx (hb hby d2_15) rfl rfl ?_
    refine o_iloadN X0 hx (hb hby d2_16) rfl ?_
    exact k_
  obtain ⟨cl8, Ar8, -, Sz8, Nn8, Hs8, -⟩ := id V0
  have hin8 : ¬ ((2 : Int32) < 0 ∨ cl8.slots.size ≤ ((2 : Int32)).toNatClampNeg) := inb_of Sz8 ⟨by decide, by decide⟩
  have hat8 : cl8.slots[((2 : Int32)).toNatClampNeg]? = some (.int w2) := Hs8.at hin8 rfl
  have go9 : Go p e below s₁ F0 s₁ (mkF m 17 #[vr a1, vj ((((((0 : Int64) ||| ((w4 &&& (255 : Int32)).toInt64)) <<< ((8 : Int32) &&& 0x3f).toInt64) ||| ((w3 &&& (255 : Int32)).toInt64)) <<< ((8 : Int32) &&& 0x3f).toInt64) ||| ((w2 &&& (255 : Int32)).toInt64)), .second, vi (1 : Int32)] [(.int (1 : Int32)), (.ref a1), (.long (((((((0 : Int64) ||| ((w4 &&& (255 : Int32)).toInt64)) <<< ((8 : Int32) &&& 0x3f).toInt64) ||| ((w3 &&& (255 : Int32)).toInt64)) <<< ((8 : Int32) &&& 0x3f).toInt64) ||| ((w2 &&& (255 : Int32)).toInt64)) <<< ((8 : Int32) &&& 0x3f).toInt64))]) := by
    intro t_ k_
    refine go7 t_ ?_
    refine o_baload X0 hx hZ e0 Ar8 hin8 hat8 (hb hby d2_17) ?_
    refine o_sipush X0 hx (hb hby d2_18) (v := 255) rfl ?_
    refine o_iand X0 hx (hb hby d2_21) ?_
    refine o_i2l X0 hx (hb hby d2_22) ?_
    refine o_lor X0 hx (hb hby d2_23) ?_
    refine o_lstoreN X0 hx (hb hby d2_24) (L' := #[vr a1, vj ((((((0 : Int64) ||| ((w4 &&& (255 : Int32)).toInt64)) <<< ((8 : Int32) &&& 0x3f).toInt64) ||| ((w3 &&& (255 : Int32)).toInt64)) <<< ((8 : Int32) &&& 0x3f).toInt64) ||| ((w2 &&& (255 : Int32)).toInt64)), .second, vi (2 : Int32)]) rfl ?_
    refine o_iinc X0 hx (hb hby d2_25) rfl (L' := #[vr a1, vj ((((((0 : Int64) ||| ((w4 &&& (255 : Int32)).toInt64)) <<< ((8 : Int32) &&& 0x3f).toInt64) ||| ((w3 &&& (255 : Int32)).toInt64)) <<< ((8 : Int32) &&& 0x3f).toInt64) ||| ((w2 &&& (255 : Int32)).toInt64)), .second, vi (1 : Int32)]) rfl ?_
    refine o_goto X0 hx (hb hby d2_28) (pc' := 7) rfl (by decide) ?_
    refine o_iloadN X0 hx (hb hby d2_7) rfl ?_
    refine o_ifNo X0 hx (hb hby d2_8) ((if0 _ _).trans (flt (by decide : ¬ ((1 : Int32) < (0 : Int32)))).1) ?_
    refine o_lloadN X0 hx (hb hby d2_11) rfl ?_
    refine o_bipush X0 hx (hb hby d2_12) (v := 8) rfl ?_
    refine o_lshl X0 hx (hb hby d2_14) ?_
    refine o_aloadN X0 hx (hb hby d2_15) rfl rfl ?_
    refine o_iloadN X0 hx (hb hby d2_16) rfl ?_
    exact k_
  obtain ⟨cl10, Ar10, -, Sz10, Nn10, Hs10, -⟩ := id V0
  have hin10 : ¬ ((1 : Int32) < 0 ∨ cl10.slots.size ≤ ((1 : Int32)).toNatClampNeg) := inb_of Sz10 ⟨by decide, by decide⟩
  have hat10 : cl10.slots[((1 : Int32)).toNatClampNeg]? = some (.int w1) := Hs10.at hin10 rfl
  have go11 : Go p e below s₁ F0 s₁ (mkF m 17 #[vr a1, vj ((((((((0 : Int64) ||| ((w4 &&& (255 : Int32)).toInt64)) <<< ((8 : Int32) &&& 0x3f).toInt64) ||| ((w3 &&& (255 : Int32)).toInt64)) <<< ((8 : Int32) &&& 0x3f).toInt64) ||| ((w2 &&& (255 : Int32)).toInt64)) <<< ((8 : Int32) &&& 0x3f).toInt64) ||| ((w1 &&& (255 : Int32)).toInt64)), .second, vi (0 : Int32)] [(.int (0 : Int32)), (.ref a1), (.long (((((((((0 : Int64) ||| ((w4 &&& (255 : Int32)).toInt64)) <<< ((8 : Int32) &&& 0x3f).toInt64) ||| ((w3 &&& (255 : Int32)).toInt64)) <<< ((8 : Int32) &&& 0x3f).toInt64) ||| ((w2 &&& (255 : Int32)).toInt64)) <<< ((8 : Int32) &&& 0x3f).toInt64) ||| ((w1 &&& (255 : Int32)).toInt64)) <<< ((8 : Int32) &&& 0x3f).toInt64))]) := by
    intro t_ k_
    refine go9 t_ ?_
    refine o_baload X0 hx hZ e0 Ar10 hin10 hat10 (hb hby d2_17) ?_
    refine o_sipush X0 hx (hb hby d2_18) (v := 255) rfl ?_
    refine o_iand X0 hx (hb hby d2_21) ?_
    refine o_i2l X0 hx (hb hby d2_22) ?_
    refine o_lor X0 hx (hb hby d2_23) ?_
    refine o_lstoreN X0 hx (hb hby d2_24) (L' := #[vr a1, vj ((((((((0 : Int64) ||| ((w4 &&& (255 : Int32)).toInt64)) <<< ((8 : Int32) &&& 0x3f).toInt64) ||| ((w3 &&& (255 : Int32)).toInt64)) <<< ((8 : Int32) &&& 0x3f).toInt64) ||| ((w2 &&& (255 : Int32)).toInt64)) <<< ((8 : Int32) &&& 0x3f).toInt64) ||| ((w1 &&& (255 : Int32)).toInt64)), .second, vi (1 : Int32)]) rfl ?_
    refine o_iinc X0 hx (hb hby d2_25) rfl (L' := #[vr a1, vj ((((((((0 : Int64) ||| ((w4 &&& (255 : Int32)).toInt64)) <<< ((8 : Int32) &&& 0x3f).toInt64) ||| ((w3 &&& (255 : Int32)).toInt64)) <<< ((8 : Int32) &&& 0x3f).toInt64) ||| ((w2 &&& (255 : Int32)).toInt64)) <<< ((8 : Int32) &&& 0x3f).toInt64) ||| ((w1 &&& (255 : Int32)).toInt64)), .second, vi (0 : Int32)]) rfl ?_
    refine o_goto X0 hx (hb hby d2_28) (pc' := 7) rfl (by decide) ?_
    refine o_iloadN X0 hx (hb hby d2_7) rfl ?_
    refine o_ifNo X0 hx (hb hby d2_8) ((if0 _ _).trans (flt (by decide : ¬ ((0 : Int32) < (0 : Int32)))).1) ?_
    refine o_lloadN X0 hx (hb hby d2_11) rfl ?_
    refine o_bipush X0 hx (hb hby d2_12) (v := 8) rfl ?_
    refine o_lshl X0 hx (hb hby d2_14) ?_
    refine o_aloadN X0 hx (hb hby d2_15) rfl rfl ?_
    refine o_iloadN X0 hx (hb hby d2_16) rfl ?_
    exact k_
  obtain ⟨cl12, Ar12, -, Sz12, Nn12, Hs12, -⟩ := id V0
  have hin12 : ¬ ((0 : Int32) < 0 ∨ cl12.slots.size ≤ ((0 : Int32)).toNatClampNeg) := inb_of Sz12 ⟨by decide, by decide⟩
  have hat12 : cl12.slots[((0 : Int32)).toNatClampNeg]? = some (.int w0) := Hs12.at hin12 rfl
  have go13 : Go p e below s₁ F0 s₁ (mkF m 32 #[vr a1, vj ((((((((((0 : Int64) ||| ((w4 &&& (255 : Int32)).toInt64)) <<< ((8 : Int32) &&& 0x3f).toInt64) ||| ((w3 &&& (255 : Int32)).toInt64)) <<< ((8 : Int32) &&& 0x3f).toInt64) ||| ((w2 &&& (255 : Int32)).toInt64)) <<< ((8 : Int32) &&& 0x3f).toInt64) ||| ((w1 &&& (255 : Int32)).toInt64)) <<< ((8 : Int32) &&& 0x3f).toInt64) ||| ((w0 &&& (255 : Int32)).toInt64)), .second, vi (-1 : Int32)] [(.long ((((((((((0 : Int64) ||| ((w4 &&& (255 : Int32)).toInt64)) <<< ((8 : Int32) &&& 0x3f).toInt64) ||| ((w3 &&& (255 : Int32)).toInt64)) <<< ((8 : Int32) &&& 0x3f).toInt64) ||| ((w2 &&& (255 : Int32)).toInt64)) <<< ((8 : Int32) &&& 0x3f).toInt64) ||| ((w1 &&& (255 : Int32)).toInt64)) <<< ((8 : Int32) &&& 0x3f).toInt64) ||| ((w0 &&& (255 : Int32)).toInt64)))]) := by
    intro t_ k_
    refine go11 t_ ?_
    refine o_baload X0 hx hZ e0 Ar12 hin12 hat12 (hb hby d2_17) ?_
    refine o_sipush X0 hx (hb hby d2_18) (v := 255) rfl ?_
    refine o_iand X0 hx (hb hby d2_21) ?_
    refine o_i2l X0 hx (hb hby d2_22) ?_
    refine o_lor X0 hx (hb hby d2_23) ?_
    refine o_lstoreN X0 hx (hb hby d2_24) (L' := #[vr a1, vj ((((((((((0 : Int64) ||| ((w4 &&& (255 : Int32)).toInt64)) <<< ((8 : Int32) &&& 0x3f).toInt64) ||| ((w3 &&& (255 : Int32)).toInt64)) <<< ((8 : Int32) &&& 0x3f).toInt64) ||| ((w2 &&& (255 : Int32)).toInt64)) <<< ((8 : Int32) &&& 0x3f).toInt64) ||| ((w1 &&& (255 : Int32)).toInt64)) <<< ((8 : Int32) &&& 0x3f).toInt64) ||| ((w0 &&& (255 : Int32)).toInt64)), .second, vi (0 : Int32)]) rfl ?_
    refine o_iinc X0 hx (hb hby d2_25) rfl (L' := #[vr a1, vj ((((((((((0 : Int64) ||| ((w4 &&& (255 : Int32)).toInt64)) <<< ((8 : Int32) &&& 0x3f).toInt64) ||| ((w3 &&& (255 : Int32)).toInt64)) <<< ((8 : Int32) &&& 0x3f).toInt64) ||| ((w2 &&& (255 : Int32)).toInt64)) <<< ((8 : Int32) &&& 0x3f).toInt64) ||| ((w1 &&& (255 : Int32)).toInt64)) <<< ((8 : Int32) &&& 0x3f).toInt64) ||| ((w0 &&& (255 : Int32)).toInt64)), .second, vi (-1 : Int32)]) rfl ?_
    refine o_goto X0 hx (hb hby d2_28) (pc' := 7) rfl (by decide) ?_
    refine o_iloadN X0 hx (hb hby d2_7) rfl ?_
    refine o_ifYes X0 hx (hb hby d2_8) (pc' := 31) rfl (by decide) ((if0 _ _).trans (tlt (by decide : (-1 : Int32) < (0 : Int32))).1) ?_
    refine o_lloadN X0 hx (hb hby d2_31) rfl ?_
    exact k_
  obtain ⟨fs, hr, hrun, hended, hW, hsame⟩ := X0.leave (v := some (.long ((((((((((0 : Int64) ||| ((w4 &&& (255 : Int32)).toInt64)) <<< ((8 : Int32) &&& 0x3f).toInt64) ||| ((w3 &&& (255 : Int32)).toInt64)) <<< ((8 : Int32) &&& 0x3f).toInt64) ||| ((w2 &&& (255 : Int32)).toInt64)) <<< ((8 : Int32) &&& 0x3f).toInt64) ||| ((w1 &&& (255 : Int32)).toInt64)) <<< ((8 : Int32) &&& 0x3f).toInt64) ||| ((w0 &&& (255 : Int32)).toInt64)))) (fun h => by rw [Bd.returns] at h; cases h)
  refine ⟨_, _, pre0 _ (go13 _ ?_), hrun, hended, _, _, rfl, ?_, ⟨_, rfl⟩, hW, hsame.mono (by decide) (by decide)⟩
  · skip
    exact retOut X0 hx Bd.returns rfl (Or.inr (Or.inl ⟨rfl, rfl, _, rfl⟩)) (hb hby d2_32) hr
  · show Q2_5 Z a1 k1 w0 w1 w2 w3 w4 h0 n0 _ s₁.heap _
    rw [e0]
    exact ⟨(congrArg (fun z => some (Value.long z)) (show ((((((((((0 : Int64) ||| ((w4 &&& (255 : Int32)).toInt64)) <<< ((8 : Int32) &&& 0x3f).toInt64) ||| ((w3 &&& (255 : Int32)).toInt64)) <<< ((8 : Int32) &&& 0x3f).toInt64) ||| ((w2 &&& (255 : Int32)).toInt64)) <<< ((8 : Int32) &&& 0x3f).toInt64) ||| ((w1 &&& (255 : Int32)).toInt64)) <<< ((8 : Int32) &&& 0x3f).toInt64) ||| ((w0 &&& (255 : Int32)).toInt64)) = f2_5 w0 w1 w2 w3 w4 from by unfold f2_5; rfl)), N0, rfl⟩

theorem d1_75 : decode method_2_code 75 = .ok (.aload_n 3, 1) := by decide +kernel
theorem d1_76 : decode method_2_code 76 = .ok (.iconst 5, 1) := by decide +kernel
theorem d1_77 : decode method_2_code 77 = .ok (.lload_n 0, 1) := by decide +kernel
theorem d1_78 : decode method_2_code 78 = .ok (.bipush 40, 2) := by decide +kernel
theorem d1_80 : decode method_2_code 80 = .ok (.lushr, 1) := by decide +kernel
theorem d1_81 : decode method_2_code 81 = .ok (.l2i, 1) := by decide +kernel
theorem d1_82 : decode method_2_code 82 = .ok (.i2b, 1) := by decide +kernel
theorem d1_83 : decode method_2_code 83 = .ok (.bastore, 1) := by decide +kernel
theorem pn_1_6 : plainName "com/example/ledgerline/ledgerline/compression/BlockInputStreamLittleEndianPinLaw" = true := by first | (simp [plainName, overriddenIn]; done) | decide +kernel
theorem ef_1_6 (m : MethodId) (x0 : Int64) : entryFrame m #[(.long x0), (.int (6 : Int32))] 4 = mkF m 0 #[vj x0, .second, vi (6 : Int32), .unset] [] := by first | (simp [entryFrame, mkF, argsToLocals, Value.category]; done) | rfl
def Q1_6 (Z : State) (q1 : Int64) (h0 : Heap) (n0 : Nat) (v : Option Value) (h : Heap) (L : List Loc) : Prop := ∃ b : Addr, ∃ kb : ClassId, v = some (.ref b) ∧ Fr n0 L ∧ Keep h0 h [] ∧ h0.size ≤ b ∧ Arv Z h b kb .byte (6 : Int32) [(.int ((q1.toInt32).toInt8.toInt32)), (.int ((((q1.toUInt64 >>> ((8 : Int32) &&& 0x3f).toInt64.toUInt64).toInt64).toInt32).toInt8.toInt32)), (.int ((((q1.toUInt64 >>> ((16 : Int32) &&& 0x3f).toInt64.toUInt64).toInt64).toInt32).toInt8.toInt32)), (.int ((((q1.toUInt64 >>> ((24 : Int32) &&& 0x3f).toInt64.toUInt64).toInt64).toInt32).toInt8.toInt32)), (.int ((((q1.toUInt64 >>> ((32 : Int32) &&& 0x3f).toInt64.toUInt64).toInt64).toInt32).toInt8.toInt32)), (.int ((((q1.toUInt64 >>> ((40 : Int32) &&& 0x3f).toInt64.toUInt64).toInt64).toInt32).toInt8.toInt32))] (.int (0 : Int32))
set_option maxRecDepth 65536 in
set_option maxHeartbeats 40000000 in
theorem rm1_6 (l : Launch) (Z : State) (a0 : Array Value) (hw : ∀ d ∈ tables_1, d.before a0 Z = true) (ws : List Jvm.Cond) (q1 : Int64) (h0 : Heap) (n0 : Nat) (Z0 : n0 ≤ h0.size) :
    MetFree l y_0 (head1 (Jvm.Cond.code y_0 method_2_code 4 (some (.array .byte)) :: ws) ({ frames := 0, cells := 1, slots := 6, locals := 0 } : Room)) (fun a U => a = #[(.long q1), (.int (6 : Int32))] ∧ Z.Warmed39 U.vm ∧ U.heap = h0) (fun _ _ _ _ _ => True) (fun _ U o U' => ∃ v L, o = .returned v ∧ Q1_6 Z q1 h0 n0 v U'.heap L ∧ FrameEnd U o U' L ({ frames := 0, cells := 1, slots := 6, locals := 0 } : Room).cells ({ frames := 0, cells := 1, slots := 6, locals := 0 } : Room).slots) := by
  refine MetFree.of_bodySF (plainFor_of_name pn_1_6) hisR ?_
  intro p e s m args below meth c s₁ Bd hml0 hP hK
  obtain ⟨rfl, hZ, hh⟩ := hP
  have hx := Bd.exec
  have hby := Bd.bytes
  have hml : c.maxLocals = 4 := hml0
  have hown : s.vm.findClass "com/example/ledgerline/ledgerline/compression/BlockInputStreamLittleEndianPinLaw" = some m.cls := findClass_of_methodNamed Bd.named
  have hnm := (name_of_methodNamed Bd.named Bd.method).1
  have X0 : Stand p l e ({ frames := 0, cells := 1, slots := 6, locals := 0 } : Room) s m #[(.long q1), (.int (6 : Int32))] below meth c s₁ [] 0 0 := Stand.of_body Bd
  have e0 : s₁.heap = h0 := by rw [← hh, Bd.state]; rfl
  have N0 := Fr.nil n0
  have K0 : Keep h0 h0 [] := Keep.refl h0 []
  obtain ⟨F0, hF0⟩ : ∃ F : JFrame, F = entryFrame m #[(.long q1), (.int (6 : Int32))] 4 := ⟨_, rfl⟩
  have pre0 : ∀ t, Steps p.tables e below (s₁.setTop F0) t → Steps p.tables e below (s₁.setTop (entryFrame m #[(.long q1), (.int (6 : Int32))] 4)) t := fun t k => hF0 ▸ k
  have go0 : Go p e below s₁ F0 s₁ (mkF m 0 #[vj q1, .second, vi (6 : Int32), .unset] []) := fun t k => castTop (hF0.trans (ef_1_6 m q1)) k
  have go1 : Go p e below s₁ F0 s₁ (mkF m 1 #[vj q1, .second, vi (6 : Int32), .unset] [(.int (6 : Int32))]) := by
    intro t_ k_
    refine go0 t_ ?_
    refine o_iloadN X0 hx (hb hby d1_0) rfl ?_
    exact k_
  obtain ⟨T2, h2, k2, X2, e2, E2, A2, st2⟩ := newP X0 hx hZ (own_w hw 5 rfl) e0 (g := (mkF m 1 #[vj q1, .second, vi (6 : Int32), .unset] [(.int (6 : Int32))])) rfl (hb hby d1_1) rfl (by decide) (cap := 6) (by decide) (by decide) (by decide) (by decide)
  obtain ⟨b2, gz2⟩ : ∃ z, z = h0.size := ⟨_, rfl⟩
  rw [← gz2] at A2 st2
  have g_b2 : n0 ≤ b2 := Nat.le_trans Z0 (Nat.le_of_eq gz2.symm)
  have sz_b2 : h0.size ≤ b2 := Nat.le_trans K0.1 (Nat.le_of_eq gz2.symm)
  have K3 : Keep h0 h2 [] := K0.ext E2
  have Z3 : n0 ≤ h2.size := Nat.le_trans Z0 E2.1
  have V2 : Arv Z h2 b2 k2 .byte (6 : Int32) [(.int (0 : Int32)), (.int (0 : Int32)), (.int (0 : Int32)), (.int (0 : Int32)), (.int (0 : Int32)), (.int (0 : Int32))] (.int (0 : Int32)) := (Arv.new A2 (by decide)).pad (pad_rep [] (.int (0 : Int32)) 6)
  have go4 : Go p e below s₁ F0 T2 (mkF m 3 #[vj q1, .second, vi (6 : Int32), .unset] [(.ref b2)]) := fun t_ k_ => go1 t_ (st2 t_ k_)
  have go5 : Go p e below s₁ F0 T2 (mkF m 13 #[vj q1, .second, vi (6 : Int32), vr b2] [(.int ((q1.toInt32).toInt8.toInt32)), (.int (0 : Int32)), (.ref b2)]) := by
    intro t_ k_
    refine go4 t_ ?_
    refine o_astoreN X2 hx (hb hby d1_3) rfl (L' := #[vj q1, .second, vi (6 : Int32), vr b2]) rfl ?_
    refine o_iloadN X2 hx (hb hby d1_4) rfl ?_
    refine o_ifNo X2 hx (hb hby d1_5) ((if0 _ _).trans (tlt (by decide : (0 : Int32) < (6 : Int32))).2.2.2) ?_
    refine o_aloadN X2 hx (hb hby d1_8) rfl rfl ?_
    refine o_iconst X2 hx (hb hby d1_9) (v := 0) rfl ?_
    refine o_lloadN X2 hx (hb hby d1_10) rfl ?_
    refine o_l2i X2 hx (hb hby d1_11) ?_
    refine o_i2b X2 hx (hb hby d1_12) ?_
    exact k_
  obtain ⟨cl6, Ar6, q6, Sz6, Nn6, Hs6, G6⟩ := id V2
  have hin6 : ¬ ((0 : Int32) < 0 ∨ cl6.slots.size ≤ ((0 : Int32)).toNatClampNeg) := inb_of Sz6 ⟨by decide, by decide⟩
  obtain ⟨T6, h6, X6, e6, W6, st6⟩ := stB X2 hx hZ e2 Ar6 (j := (0 : Int32)) hin6 (g := (mkF m 13 #[vj q1, .second, vi (6 : Int32), vr b2] [(.int ((q1.toInt32).toInt8.toInt32)), (.int (0 : Int32)), (.ref b2)])) rfl rfl (hb hby d1_13)
  rw [own_nar_byte] at W6
  have V6 : Arv Z h6 b2 k2 .byte (6 : Int32) [(.int ((q1.toInt32).toInt8.toInt32)), (.int (0 : Int32)), (.int (0 : Int32)), (.int (0 : Int32)), (.int (0 : Int32)), (.int (0 : Int32))] (.int (0 : Int32)) := Arv.set Ar6 q6 Sz6 Nn6 Hs6 G6 (fits_nar_byte _) W6 0 rfl (Nat.le_of_ble_eq_true rfl)
  have K7 : Keep h0 h6 [] := K3.wr W6 (Or.inr sz_b2)
  have Z7 : n0 ≤ h6.size := Nat.le_trans Z3 (Keep.of_wr W6).1
  have N6 := Fr.snoc X6 N0 g_b2
  have go8 : Go p e below s₁ F0 T6 (mkF m 14 #[vj q1, .second, vi (6 : Int32), vr b2] []) := fun t_ k_ => go5 t_ (st6 t_ k_)
  have go9 : Go p e below s₁ F0 T6 (mkF m 27 #[vj q1, .second, vi (6 : Int32), vr b2] [(.int ((((q1.toUInt64 >>> ((8 : Int32) &&& 0x3f).toInt64.toUInt64).toInt64).toInt32).toInt8.toInt32)), (.int (1 : Int32)), (.ref b2)]) := by
    intro t_ k_
    refine go8 t_ ?_
    refine o_iloadN X6 hx (hb hby d1_14) rfl ?_
    refine o_iconst X6 hx (hb hby d1_15) (v := 1) rfl ?_
    refine o_icmpNo X6 hx (hb hby d1_16) (tlt (by decide : (1 : Int32) < (6 : Int32))).2.2.2 ?_
    refine o_aloadN X6 hx (hb hby d1_19) rfl rfl ?_
    refine o_iconst X6 hx (hb hby d1_20) (v := 1) rfl ?_
    refine o_lloadN X6 hx (hb hby d1_21) rfl ?_
    refine o_bipush X6 hx (hb hby d1_22) (v := 8) rfl ?_
    refine o_lushr X6 hx (hb hby d1_24) ?_
    refine o_l2i X6 hx (hb hby d1_25) ?_
    refine o_i2b X6 hx (hb hby d1_26) ?_
    exact k_
  obtain ⟨cl10, Ar10, q10, Sz10, Nn10, Hs10, G10⟩ := id V6
  have hin10 : ¬ ((1 : Int32) < 0 ∨ cl10.slots.size ≤ ((1 : Int32)).toNatClampNeg) := inb_of Sz10 ⟨by decide, by decide⟩
  obtain ⟨T10, h10, X10, e10, W10, st10⟩ := stB X6 hx hZ e6 Ar10 (j := (1 : Int32)) hin10 (g := (mkF m 27 #[vj q1, .second, vi (6 : Int32), vr b2] [(.int ((((q1.toUInt64 >>> ((8 : Int32) &&& 0x3f).toInt64.toUInt64).toInt64).toInt32).toInt8.toInt32)), (.int (1 : Int32)), (.ref b2)])) rfl rfl (hb hby d1_27)
  rw [own_nar_byte] at W10
  have V10 : Arv Z h10 b2 k2 .byte (6 : Int32) [(.int ((q1.toInt32).toInt8.toInt32)), (.int ((((q1.toUInt64 >>> ((8 : Int32) &&& 0x3f).toInt64.toUInt64).toInt64).toInt32).toInt8.toInt32)), (.int (0 : Int32)), (.int (0 : Int32)), (.int (0 : Int32)), (.int (0 : Int32))] (.int (0 : Int32)) := Arv.set Ar10 q10 Sz10 Nn10 Hs10 G10 (fits_nar_byte _) W10 1 rfl (Nat.le_of_ble_eq_true rfl)
  have K11 : Keep h0 h10 [] := K7.wr W10 (Or.inr sz_b2)
  have Z11 : n0 ≤ h10.size := Nat.le_trans Z7 (Keep.of_wr W10).1
  have N10 := Fr.snoc X10 N6 g_b2
  have go12 : Go p e below s₁ F0 T10 (mkF m 28 #[vj q1, .second, vi (6 : Int32), vr b2] []) := fun t_ k_ => go9 t_ (st10 t_ k_)
  have go13 : Go p e below s₁ F0 T10 (mkF m 41 #[vj q1, .second, vi (6 : Int32), vr b2] [(.int ((((q1.toUInt64 >>> ((16 : Int32) &&& 0x3f).toInt64.toUInt64).toInt64).toInt32).toInt8.toInt32)), (.int (2 : Int32)), (.ref b2)]) := by
    intro t_ k_
    refine go12 t_ ?_
    refine o_iloadN X10 hx (hb hby d1_28) rfl ?_
    refine o_iconst X10 hx (hb hby d1_29) (v := 2) rfl ?_
    refine o_icmpNo X10 hx (hb hby d1_30) (tlt (by decide : (2 : Int32) < (6 : Int32))).2.2.2 ?_
    refine o_aloadN X10 hx (hb hby d1_33) rfl rfl ?_
    refine o_iconst X10 hx (hb hby d1_34) (v := 2) rfl ?_
    refine o_lloadN X10 hx (hb hby d1_35) rfl ?_
    refine o_bipush X10 hx (hb hby d1_36) (v := 16) rfl ?_
    refine o_lushr X10 hx (hb hby d1_38) ?_
    refine o_l2i X10 hx (hb hby d1_39) ?_
    refine o_i2b X10 hx (hb hby d1_40) ?_
    exact k_
  obtain ⟨cl14, Ar14, q14, Sz14, Nn14, Hs14, G14⟩ := id V10
  have hin14 : ¬ ((2 : Int32) < 0 ∨ cl14.slots.size ≤ ((2 : Int32)).toNatClampNeg) := inb_of Sz14 ⟨by decide, by decide⟩
  obtain ⟨T14, h14, X14, e14, W14, st14⟩ := stB X10 hx hZ e10 Ar14 (j := (2 : Int32)) hin14 (g := (mkF m 41 #[vj q1, .second, vi (6 : Int32), vr b2] [(.int ((((q1.toUInt64 >>> ((16 : Int32) &&& 0x3f).toInt64.toUInt64).toInt64).toInt32).toInt8.toInt32)), (.int (2 : Int32)), (.ref b2)])) rfl rfl (hb hby d1_41)
  rw [own_nar_byte] at W14
  have V14 : Arv Z h14 b2 k2 .byte (6 : Int32) [(.int ((q1.toInt32).toInt8.toInt32)), (.int ((((q1.toUInt64 >>> ((8 : Int32) &&& 0x3f).toInt64.toUInt64).toInt64).toInt32).toInt8.toInt32)), (.int ((((q1.toUInt64 >>> ((16 : Int32) &&& 0x3f).toInt64.toUInt64).toInt64).toInt32).toInt8.toInt32)), (.int (0 : Int32)), (.int (0 : Int32)), (.int (0 : Int32))] (.int (0 : Int32)) := Arv.set Ar14 q14 Sz14 Nn14 Hs14 G14 (fits_nar_byte _) W14 2 rfl (Nat.le_of_ble_eq_true rfl)
  have K15 : Keep h0 h14 [] := K11.wr W14 (Or.inr sz_b2)
  have Z15 : n0 ≤ h14.size := Nat.le_trans Z11 (Keep.of_wr W14).1
  have N14 := Fr.snoc X14 N10 g_b2
  have go16 : Go p e below s₁ F0 T14 (mkF m 42 #[vj q1, .second, vi (6 : Int32), vr b2] []) := fun t_ k_ => go13 t_ (st14 t_ k_)
  have go17 : Go p e below s₁ F0 T14 (mkF m 55 #[vj q1, .second, vi (6 : Int32), vr b2] [(.int ((((q1.toUInt64 >>> ((24 : Int32) &&& 0x3f).toInt64.toUInt64).toInt64).toInt32).toInt8.toInt32)), (.int (3 : Int32)), (.ref b2)]) := by
    intro t_ k_
    refine go16 t_ ?_
    refine o_iloadN X14 hx (hb hby d1_42) rfl ?_
    refine o_iconst X14 hx (hb hby d1_43) (v := 3) rfl ?_
    refine o_icmpNo X14 hx (hb hby d1_44) (tlt (by decide : (3 : Int32) < (6 : Int32))).2.2.2 ?_
    refine o_aloadN X14 hx (hb hby d1_47) rfl rfl ?_
    refine o_iconst X14 hx (hb hby d1_48) (v := 3) rfl ?_
    refine o_lloadN X14 hx (hb hby d1_49) rfl ?_
    refine o_bipush X14 hx (hb hby d1_50) (v := 24) rfl ?_
    refine o_lushr X14 hx (hb hby d1_52) ?_
    refine o_l2i X14 hx (hb hby d1_53) ?_
    refine o_i2b X14 hx (hb hby d1_54) ?_
    exact k_
  obtain ⟨cl18, Ar18, q18, Sz18, Nn18, Hs18, G18⟩ := id V14
  have hin18 : ¬ ((3 : Int32) < 0 ∨ cl18.slots.size ≤ ((3 : Int32)).toNatClampNeg) := inb_of Sz18 ⟨by decide, by decide⟩
  obtain ⟨T18, h18, X18, e18, W18, st18⟩ := stB X14 hx hZ e14 Ar18 (j := (3 : Int32)) hin18 (g := (mkF m 55 #[vj q1, .second, vi (6 : Int32), vr b2] [(.int ((((q1.toUInt64 >>> ((24 : Int32) &&& 0x3f).toInt64.toUInt64).toInt64).toInt32).toInt8.toInt32)), (.int (3 : Int32)), (.ref b2)])) rfl rfl (hb hby d1_55)
  rw [own_nar_byte] at W18
  have V18 : Arv Z h18 b2 k2 .byte (6 : Int32) [(.int ((q1.toInt32).toInt8.toInt32)), (.int ((((q1.toUInt64 >>> ((8 : Int32) &&& 0x3f).toInt64.toUInt64).toInt64).toInt32).toInt8.toInt32)), (.int ((((q1.toUInt64 >>> ((16 : Int32) &&& 0x3f).toInt64.toUInt64).toInt64).toInt32).toInt8.toInt32)), (.int ((((q1.toUInt64 >>> ((24 : Int32) &&& 0x3f).toInt64.toUInt64).toInt64).toInt32).toInt8.toInt32)), (.int (0 : Int32)), (.int (0 : Int32))] (.int (0 : Int32)) := Arv.set Ar18 q18 Sz18 Nn18 Hs18 G18 (fits_nar_byte _) W18 3 rfl (Nat.le_of_ble_eq_true rfl)
  have K19 : Keep h0 h18 [] := K15.wr W18 (Or.inr sz_b2)
  have Z19 : n0 ≤ h18.size := Nat.le_trans Z15 (Keep.of_wr W18).1
  have N18 := Fr.snoc X18 N14 g_b2
  have go20 : Go p e below s₁ F0 T18 (mkF m 56 #[vj q1, .second, vi (6 : Int32), vr b2] []) := fun t_ k_ => go17 t_ (st18 t_ k_)
  have go21 : Go p e below s₁ F0 T18 (mkF m 69 #[vj q1, .second, vi (6 : Int32), vr b2] [(.int ((((q1.toUInt64 >>> ((32 : Int32) &&& 0x3f).toInt64.toUInt64).toInt64).toInt32).toInt8.toInt32)), (.int (4 : Int32)), (.ref b2)]) := by
    intro t_ k_
    refine go20 t_ ?_
    refine o_iloadN X18 hx (hb hby d1_56) rfl ?_
    refine o_iconst X18 hx (hb hby d1_57) (v := 4) rfl ?_
    refine o_icmpNo X18 hx (hb hby d1_58) (tlt (by decide : (4 : Int32) < (6 : Int32))).2.2.2 ?_
    refine o_aloadN X18 hx (hb hby d1_61) rfl rfl ?_
    refine o_iconst X18 hx (hb hby d1_62) (v := 4) rfl ?_
    refine o_lloadN X18 hx (hb hby d1_63) rfl ?_
    refine o_bipush X18 hx (hb hby d1_64) (v := 32) rfl ?_
    refine o_lushr X18 hx (hb hby d1_66) ?_
    refine o_l2i X18 hx (hb hby d1_67) ?_
    refine o_i2b X18 hx (hb hby d1_68) ?_
    exact k_
  obtain ⟨cl22, Ar22, q22, Sz22, Nn22, Hs22, G22⟩ := id V18
  have hin22 : ¬ ((4 : Int32) < 0 ∨ cl22.slots.size ≤ ((4 : Int32)).toNatClampNeg) := inb_of Sz22 ⟨by decide, by decide⟩
  obtain ⟨T22, h22, X22, e22, W22, st22⟩ := stB X18 hx hZ e18 Ar22 (j := (4 : Int32)) hin22 (g := (mkF m 69 #[vj q1, .second, vi (6 : Int32), vr b2] [(.int ((((q1.toUInt64 >>> ((32 : Int32) &&& 0x3f).toInt64.toUInt64).toInt64).toInt32).toInt8.toInt32)), (.int (4 : Int32)), (.ref b2)])) rfl rfl (hb hby d1_69)
  rw [own_nar_byte] at W22
  have V22 : Arv Z h22 b2 k2 .byte (6 : Int32) [(.int ((q1.toInt32).toInt8.toInt32)), (.int ((((q1.toUInt64 >>> ((8 : Int32) &&& 0x3f).toInt64.toUInt64).toInt64).toInt32).toInt8.toInt32)), (.int ((((q1.toUInt64 >>> ((16 : Int32) &&& 0x3f).toInt64.toUInt64).toInt64).toInt32).toInt8.toInt32)), (.int ((((q1.toUInt64 >>> ((24 : Int32) &&& 0x3f).toInt64.toUInt64).toInt64).toInt32).toInt8.toInt32)), (.int ((((q1.toUInt64 >>> ((32 : Int32) &&& 0x3f).toInt64.toUInt64).toInt64).toInt32).toInt8.toInt32)), (.int (0 : Int32))] (.int (0 : Int32)) := Arv.set Ar22 q22 Sz22 Nn22 Hs22 G22 (fits_nar_byte _) W22 4 rfl (Nat.le_of_ble_eq_true rfl)
  have K23 : Keep h0 h22 [] := K19.wr W22 (Or.inr sz_b2)
  have Z23 : n0 ≤ h22.size := Nat.le_trans Z19 (Keep.of_wr W22).1
  have N22 := Fr.snoc X22 N18 g_b2
  have go24 : Go p e below s₁ F0 T22 (mkF m 70 #[vj q1, .second, vi (6 : Int32), vr b2] []) := fun t_ k_ => go21 t_ (st22 t_ k_)
  have go25 : Go p e below s₁ F0 T22 (mkF m 83 #[vj q1, .second, vi (6 : Int32), vr b2] [(.int ((((q1.toUInt64 >>> ((40 : Int32) &&& 0x3f).toInt64.toUInt64).toInt64).toInt32).toInt8.toInt32)), (.int (5 : Int32)), (.ref b2)]) := by
    intro t_ k_
    refine go24 t_ ?_
    refine o_iloadN X22 hx (hb hby d1_70) rfl ?_
    refine o_iconst X22 hx (hb hby d1_71) (v := 5) rfl ?_
    refine o_icmpNo X22 hx (hb hby d1_72) (tlt (by decide : (5 : Int32) < (6 : Int32))).2.2.2 ?_
    refine o_aloadN X22 hx (hb hby d1_75) rfl rfl ?_
    refine o_iconst X22 hx (hb hby d1_76) (v := 5) rfl ?_
    refine o_lloadN X22 hx (hb hby d1_77) rfl ?_
    refine o_bipush X22 hx (hb hby d1_78) (v := 40) rfl ?_
    refine o_lushr X22 hx (hb hby d1_80) ?_
    refine o_l2i X22 hx (hb hby d1_81) ?_
    refine o_i2b X22 hx (hb hby d1_82) ?_
    exact k_
  obtain ⟨cl26, Ar26, q26, Sz26, Nn26, Hs26, G26⟩ := id V22
  have hin26 : ¬ ((5 : Int32) < 0 ∨ cl26.slots.size ≤ ((5 : Int32)).toNatClampNeg) := inb_of Sz26 ⟨by decide, by decide⟩
  obtain ⟨T26, h26, X26, e26, W26, st26⟩ := stB X22 hx hZ e22 Ar26 (j := (5 : Int32)) hin26 (g := (mkF m 83 #[vj q1, .second, vi (6 : Int32), vr b2] [(.int ((((q1.toUInt64 >>> ((40 : Int32) &&& 0x3f).toInt64.toUInt64).toInt64).toInt32).toInt8.toInt32)), (.int (5 : Int32)), (.ref b2)])) rfl rfl (hb hby d1_83)
  rw [own_nar_byte] at W26
  have V26 : Arv Z h26 b2 k2 .byte (6 : Int32) [(.int ((q1.toInt32).toInt8.toInt32)), (.int ((((q1.toUInt64 >>> ((8 : Int32) &&& 0x3f).toInt64.toUInt64).toInt64).toInt32).toInt8.toInt32)), (.int ((((q1.toUInt64 >>> ((16 : Int32) &&& 0x3f).toInt64.toUInt64).toInt64).toInt32).toInt8.toInt32)), (.int ((((q1.toUInt64 >>> ((24 : Int32) &&& 0x3f).toInt64.toUInt64).toInt64).toInt32).toInt8.toInt32)), (.int ((((q1.toUInt64 >>> ((32 : Int32) &&& 0x3f).toInt64.toUInt64).toInt64).toInt32).toInt8.toInt32)), (.int ((((q1.toUInt64 >>> ((40 : Int32) &&& 0x3f).toInt64.toUInt64).toInt64).toInt32).toInt8.toInt32))] (.int (0 : Int32)) := Arv.set Ar26 q26 Sz26 Nn26 Hs26 G26 (fits_nar_byte _) W26 5 rfl (Nat.le_of_ble_eq_true rfl)
  have K27 : Keep h0 h26 [] := K23.wr W26 (Or.inr sz_b2)
  have Z27 : n0 ≤ h26.size := Nat.le_trans Z23 (Keep.of_wr W26).1
  have N26 := Fr.snoc X26 N22 g_b2
  have go28 : Go p e below s₁ F0 T26 (mkF m 84 #[vj q1, .second, vi (6 : Int32), vr b2] []) := fun t_ k_ => go25 t_ (st26 t_ k_)
  have go29 : Go p e below s₁ F0 T26 (mkF m 117 #[vj q1, .second, vi (6 : Int32), vr b2] [(.ref b2)]) := by
    intro t_ k_
    refine go28 t_ ?_
    refine o_iloadN X26 hx (hb hby d1_84) rfl ?_
    refine o_bipush X26 hx (hb hby d1_85) (v := 6) rfl ?_
    refine o_icmpYes X26 hx (hb hby d1_87) (pc' := 100) rfl (by decide) (flt (by decide : ¬ ((6 : Int32) < (6 : Int32)))).2.2.2 ?_
    refine o_iloadN X26 hx (hb hby d1_100) rfl ?_
    refine o_bipush X26 hx (hb hby d1_101) (v := 7) rfl ?_
    refine o_icmpYes X26 hx (hb hby d1_103) (pc' := 116) rfl (by decide) (flt (by decide : ¬ ((7 : Int32) < (6 : Int32)))).2.2.2 ?_
    refine o_aloadN X26 hx (hb hby d1_116) rfl rfl ?_
    exact k_
  obtain ⟨fs, hr, hrun, hended, hW, hsame⟩ := X26.leave (v := some (.ref b2)) (fun h => by rw [Bd.returns] at h; cases h)
  refine ⟨_, _, pre0 _ (go29 _ ?_), hrun, hended, _, _, rfl, ?_, ⟨_, rfl⟩, hW, hsame.mono (by decide) (by decide)⟩
  · skip
    exact retOut X26 hx Bd.returns rfl (Or.inr (Or.inr (Or.inr (Or.inr ⟨rfl, rfl, rfl⟩)))) (hb hby d1_117) hr
  · show Q1_6 Z q1 h0 n0 _ T26.heap _
    rw [e26]
    exact ⟨b2, k2, rfl, N26, K27, sz_b2, V26⟩

theorem pn_2_6 : plainName "com/example/ledgerline/ledgerline/compression/BlockInputStream" = true := by first | (simp [plainName, overriddenIn]; done) | decide +kernel
theorem ef_2_6 (m : MethodId) (x0 : Addr) : entryFrame m #[(.ref x0)] 4 = mkF m 0 #[vr x0, .unset, .unset, .unset] [] := by first | (simp [entryFrame, mkF, argsToLocals, Value.category]; done) | rfl
def f2_6 (w0 : Int32) (w1 : Int32) (w2 : Int32) (w3 : Int32) (w4 : Int32) (w5 : Int32) : Int64 := ((((((((((((0 : Int64) ||| ((w5 &&& (255 : Int32)).toInt64)) <<< ((8 : Int32) &&& 0x3f).toInt64) ||| ((w4 &&& (255 : Int32)).toInt64)) <<< ((8 : Int32) &&& 0x3f).toInt64) ||| ((w3 &&& (255 : Int32)).toInt64)) <<< ((8 : Int32) &&& 0x3f).toInt64) ||| ((w2 &&& (255 : Int32)).toInt64)) <<< ((8 : Int32) &&& 0x3f).toInt64) ||| ((w1 &&& (255 : Int32)).toInt64)) <<< ((8 : Int32) &&& 0x3f).toInt64) ||| ((w0 &&& (255 : Int32)).toInt64))
def Q2_6 (Z : State) (a1 : Addr) (k1 : ClassId) (w0 : Int32) (w1 : Int32) (w2 : Int32) (w3 : Int32) (w4 : Int32) (w5 : Int32) (h0 : Heap) (n0 : Nat) (v : Option Value) (h : Heap) (L : List Loc) : Prop := v = some (.long (f2_6 w0 w1 w2 w3 w4 w5)) ∧ Fr n0 L ∧ h = h0
set_option maxRecDepth 65536 in
set_option maxHeartbeats 40000000 in
theorem rm2_6 (l : Launch) (Z : State) (a0 : Array Value) (hw : ∀ d ∈ tables_1, d.before a0 Z = true) (ws : List Jvm.Cond) (a1 : Addr) (k1 : ClassId) (w0 : Int32) (w1 : Int32) (w2 : Int32) (w3 : Int32) (w4 : Int32) (w5 : Int32) (h0 : Heap) (n0 : Nat) (Z0 : n0 ≤ h0.size) (V0 : Arv Z h0 a1 k1 .byte (6 : Int32) [(.int w0), (.int w1), (.int w2), (.int w3), (.int w4), (.int w5)] (.int (0 : Int32))) :
    MetFree l y_1 (head1 (Jvm.Cond.code y_1 prog_3_method_9_code 4 (some .long) :: ws) ({ frames := 0, cells := 0, slots := 0, locals := 0 } : Room)) (fun a U => a = #[(.ref a1)] ∧ Z.Warmed39 U.vm ∧ U.heap = h0) (fun _ _ _ _ _ => True) (fun _ U o U' => ∃ v L, o = .returned v ∧ Q2_6 Z a1 k1 w0 w1 w2 w3 w4 w5 h0 n0 v U'.heap L ∧ FrameEnd U o U' L ({ frames := 0, cells := 0, slots := 0, locals := 0 } : Room).cells ({ frames := 0, cells := 0, slots := 0, locals := 0 } : Room).slots) := by
  refine MetFree.of_bodySF (plainFor_of_name pn_2_6) hisR ?_
  intro p e s m args below meth c s₁ Bd hml0 hP hK
  obtain ⟨rfl, hZ, hh⟩ := hP
  have hx := Bd.exec
  have hby := Bd.bytes
  have hml : c.maxLocals = 4 := hml0
  have hown : s.vm.findClass "com/example/ledgerline/ledgerline/compression/BlockInputStream" = some m.cls := findClass_of_methodNamed Bd.named
  have hnm := (name_of_methodNamed Bd.named Bd.method).1
  have X0 : Stand p l e ({ frames := 0, cells := 0, slots := 0, locals := 0 } : Room) s m #[(.ref a1)] below meth c s₁ [] 0 0 := Stand.of_body Bd
  have e0 : s₁.heap = h0 := by rw [← hh, Bd.state]; rfl
  have N0 := Fr.nil n0
  obtain ⟨F0, hF0⟩ : ∃ F : JFrame, F = entryFrame m #[(.ref a1)] 4 := ⟨_, rfl⟩
  have pre0 : ∀ t, Steps p.tables e below (s₁.setTop F0) t → Steps p.tables e below (s₁.setTop (entryFrame m #[(.ref a1)] 4)) t := fun t k => hF0 ▸ k
  have go0 : Go p e below s₁ F0 s₁ (mkF m 0 #[vr a1, .unset, .unset, .unset] []) := fun t k => castTop (hF0.trans (ef_2_6 m a1)) k
  have go1 : Go p e below s₁ F0 s₁ (mkF m 3 #[vr a1, vj (0 : Int64), .second, .unset] [(.ref a1)]) := by
    intro t_ k_
    refine go0 t_ ?_
    refine o_lconst X0 hx (hb hby d2_0) (v := 0) rfl ?_
    refine o_lstoreN X0 hx (hb hby d2_1) (L' := #[vr a1, vj (0 : Int64), .second, .unset]) rfl ?_
    refine o_aloadN X0 hx (hb hby d2_2) rfl rfl ?_
    exact k_
  obtain ⟨cl2, Ar2, -, Sz2, Nn2, -, -⟩ := id V0
  have go3 : Go p e below s₁ F0 s₁ (mkF m 17 #[vr a1, vj (0 : Int64), .second, vi (5 : Int32)] [(.int (5 : Int32)), (.ref a1), (.long (0 : Int64))]) := by
    intro t_ k_
    refine go1 t_ ?_
    refine o_len X0 hx hZ e0 Ar2 Sz2 Nn2 (hb hby d2_3) ?_
    refine o_iconst X0 hx (hb hby d2_4) (v := 1) rfl ?_
    refine o_isubE X0 hx (hb hby d2_5) (v := 5) rfl ?_
    refine o_istoreN X0 hx (hb hby d2_6) (L' := #[vr a1, vj (0 : Int64), .second, vi (5 : Int32)]) rfl ?_
    refine o_iloadN X0 hx (hb hby d2_7) rfl ?_
    refine o_ifNo X0 hx (hb hby d2_8) ((if0 _ _).trans (flt (by decide : ¬ ((5 : Int32) < (0 : Int32)))).1) ?_
    refine o_lloadN X0 hx (hb hby d2_11) rfl ?_
    refine o_bipush X0 hx (hb hby d2_12) (v := 8) rfl ?_
    refine o_lshlE X0 hx (hb hby d2_14) (v := 0) rfl ?_
    refine o_aloadN X0 hx (hb hby d2_15) rfl rfl ?_
    refine o_iloadN X0 hx (hb hby d2_16) rfl ?_
    exact k_
  obtain ⟨cl4, Ar4, -, Sz4, Nn4, Hs4, -⟩ := id V0
  have hin4 : ¬ ((5 : Int32) < 0 ∨ cl4.slots.size ≤ ((5 : Int32)).toNatClampNeg) := inb_of Sz4 ⟨by decide, by decide⟩
  have hat4 : cl4.slots[((5 : Int32)).toNatClampNeg]? = some (.int w5) := Hs4.at hin4 rfl
  have go5 : Go p e below s₁ F0 s₁ (mkF m 17 #[vr a1, vj ((0 : Int64) ||| ((w5 &&& (255 : Int32)).toInt64)), .second, vi (4 : Int32)] [(.int (4 : Int32)), (.ref a1), (.long (((0 : Int64) ||| ((w5 &&& (255 : Int32)).toInt64)) <<< ((8 : Int32) &&& 0x3f).toInt64))]) := by
    intro t_ k_
    refine go3 t_ ?_
    refine o_baload X0 hx hZ e0 Ar4 hin4 hat4 (hb hby d2_17) ?_
    refine o_sipush X0 hx (hb hby d2_18) (v := 255) rfl ?_
    refine o_iand X0 hx (hb hby d2_21) ?_
    refine o_i2l X0 hx (hb hby d2_22) ?_
    refine o_lor X0 hx (hb hby d2_23) ?_
    refine o_lstoreN X0 hx (hb hby d2_24) (L' := #[vr a1, vj ((0 : Int64) ||| ((w5 &&& (255 : Int32)).toInt64)), .second, vi (5 : Int32)]) rfl ?_
    refine o_iinc X0 hx (hb hby d2_25) rfl (L' := #[vr a1, vj ((0 : Int64) ||| ((w5 &&& (255 : Int32)).toInt64)), .second, vi (4 : Int32)]) rfl ?_
    refine o_goto X0 hx (hb hby d2_28) (pc' := 7) rfl (by decide) ?_
    refine o_iloadN X0 hx (hb hby d2_7) rfl ?_
    refine o_ifNo X0 hx (hb hby d2_8) ((if0 _ _).trans (flt (by decide : ¬ ((4 : Int32) < (0 : Int32)))).1) ?_
    refine o_lloadN X0 hx (hb hby d2_11) rfl ?_
    refine o_bipush X0 hx (hb hby d2_12) (v := 8) rfl ?_
    refine o_lshl X0 hx (hb hby d2_14) ?_
    refine o_aloadN X0 hx (hb hby d2_15) rfl rfl ?_
    refine o_iloadN X0 hx (hb hby d2_16) rfl ?_
    exact k_
  obtain ⟨cl6, Ar6, -, Sz6, Nn6, Hs6, -⟩ := id V0
  have hin6 : ¬ ((4 : Int32) < 0 ∨ cl6.slots.size ≤ ((4 : Int32)).toNatClampNeg) := inb_of Sz6 ⟨by decide, by decide⟩
  have hat6 : cl6.slots[((4 : Int32)).toNatClampNeg]? = some (.int w4) := Hs6.at hin6 rfl
  have go7 : Go p e below s₁ F0 s₁ (mkF m 17 #[vr a1, vj ((((0 : Int64) ||| ((w5 &&& (255 : Int32)).toInt64)) <<< ((8 : Int32) &&& 0x3f).toInt64) ||| ((w4 &&& (255 : Int32)).toInt64)), .second, vi (3 : Int32)] [(.int (3 : Int32)), (.ref a1), (.long (((((0 : Int64) ||| ((w5 &&& (255 : Int32)).toInt64)) <<< ((8 : Int32) &&& 0x3f).toInt64) ||| ((w4 &&& (255 : Int32)).toInt64)) <<< ((8 : Int32) &&& 0x3f).toInt64))]) := by
    intro t_ k_
    refine go5 t_ ?_
    refine o_baload X0 hx hZ e0 Ar6 hin6 hat6 (hb hby d2_17) ?_
    refine o_sipush X0 hx (hb hby d2_18) (v := 255) rfl ?_
    refine o_iand X0 hx (hb hby d2_21) ?_
    refine o_i2l X0 hx (hb hby d2_22) ?_
    refine o_lor X0 hx (hb hby d2_23) ?_
    refine o_lstoreN X0 hx (hb hby d2_24) (L' := #[vr a1, vj ((((0 : Int64) ||| ((w5 &&& (255 : Int32)).toInt64)) <<< ((8 : Int32) &&& 0x3f).toInt64) ||| ((w4 &&& (255 : Int32)).toInt64)), .second, vi (4 : Int32)]) rfl ?_
    refine o_iinc X0 hx (hb hby d2_25) rfl (L' := #[vr a1, vj ((((0 : Int64) ||| ((w5 &&& (255 : Int32)).toInt64)) <<< ((8 : Int32) &&& 0x3f).toInt64) ||| ((w4 &&& (255 : Int32)).toInt64)), .second, vi (3 : Int32)]) rfl ?_
    refine o_goto X0 hx (hb hby d2_28) (pc' := 7) rfl (by decide) ?_
    refine o_iloadN X0 hx (hb hby d2_7) rfl ?_
    refine o_ifNo X0 hx (hb hby d2_8) ((if0 _ _).trans (flt (by decide : ¬ ((3 : Int32) < (0 : Int32)))).1) ?_
    refine o_lloadN X0 hx (hb hby d2_11) rfl ?_
    refine o_bipush X0 hx (hb hby d2_12) (v := 8) rfl ?_
    refine o_lshl X0 hx (hb hby d2_14) ?_
    refine o_aloadN X0 hx (hb hby d2_15) rfl rfl ?_
    refine o_iloadN X0 hx (hb hby d2_16) rfl ?_
    exact k_
  obtain ⟨cl8, Ar8, -, Sz8, Nn8, Hs8, -⟩ := id V0
  have hin8 : ¬ ((3 : Int32) < 0 ∨ cl8.slots.size ≤ ((3 : Int32)).toNatClampNeg) := inb_of Sz8 ⟨by decide, by decide⟩
  have hat8 : cl8.slots[((3 : Int32)).toNatClampNeg]? = some (.int w3) := Hs8.at hin8 rfl
  have go9 : Go p e below s₁ F0 s₁ (mkF m 17 #[vr a1, vj ((((((0 : Int64) ||| ((w5 &&& (255 : Int32)).toInt64)) <<< ((8 : Int32) &&& 0x3f).toInt64) ||| ((w4 &&& (255 : Int32)).toInt64)) <<< ((8 : Int32) &&& 0x3f).toInt64) ||| ((w3 &&& (255 : Int32)).toInt64)), .second, vi (2 : Int32)] [(.int (2 : Int32)), (.ref a1), (.long (((((((0 : Int64) ||| ((w5 &&& (255 : Int32)).toInt64)) <<< ((8 : Int32) &&& 0x3f).toInt64) ||| ((w4 &&& (255 : Int32)).toInt64)) <<< ((8 : Int32) &&& 0x3f).toInt64) ||| ((w3 &&& (255 : Int32)).toInt64)) <<< ((8 : Int32) &&& 0x3f).toInt64))]) := by
    intro t_ k_
    refine go7 t_ ?_
    refine o_baload X0 hx hZ e0 Ar8 hin8 hat8 (hb hby d2_17) ?_
    refine o_sipush X0 hx (hb hby d2_18) (v := 255) rfl ?_
    refine o_iand X0 hx (hb hby d2_21) ?_
    refine o_i2l X0 hx (hb hby d2_22) ?_
    refine o_lor X0 hx (hb hby d2_23) ?_
    refine o_lstoreN X0 hx (hb hby d2_24) (L' := #[vr a1, vj ((((((0 : Int64) ||| ((w5 &&& (255 : Int32)).toInt64)) <<< ((8 : Int32) &&& 0x3f).toInt64) ||| ((w4 &&& (255 : Int32)).toInt64)) <<< ((8 : Int32) &&& 0x3f).toInt64) ||| ((w3 &&& (255 : Int32)).toInt64)), .second, vi (3 : Int32)]) rfl ?_
    refine o_iinc X0 hx (hb hby d2_25) rfl (L' := #[vr a1, vj ((((((0 : Int64) ||| ((w5 &&& (255 : Int32)).toInt64)) <<< ((8 : Int32) &&& 0x3f).toInt64) ||| ((w4 &&& (255 : Int32)).toInt64)) <<< ((8 : Int32) &&& 0x3f).toInt64) ||| ((w3 &&& (255 : Int32)).toInt64)), .second, vi (2 : Int32)]) rfl ?_
    refine o_goto X0 hx (hb hby d2_28) (pc' := 7) rfl (by decide) ?_
    refine o_iloadN X0 hx (hb hby d2_7) rfl ?_
    refine o_ifNo X0 hx (hb hby d2_8) ((if0 _ _).trans (flt (by decide : ¬ ((2 : Int32) < (0 : Int32)))).1) ?_
    refine o_lloadN X0 hx (hb hby d2_11) rfl ?_
    refine o_bipush X0 hx (hb hby d2_12) (v := 8) rfl ?_
    refine o_lshl X0 hx (hb hby d2_14) ?_
    refine o_aloadN X0 hx (hb hby d2_15) rfl rfl ?_
    refine o_iloadN X0 hx (hb hby d2_16) rfl ?_
    exact k_
  obtain ⟨cl10, Ar10, -, Sz10, Nn10, Hs10, -⟩ := id V0
  have hin10 : ¬ ((2 : Int32) < 0 ∨ cl10.slots.size ≤ ((2 : Int32)).toNatClampNeg) := inb_of Sz10 ⟨by decide, by decide⟩
  have hat10 : cl10.slots[((2 : Int32)).toNatClampNeg]? = some (.int w2) := Hs10.at hin10 rfl
  have go11 : Go p e below s₁ F0 s₁ (mkF m 17 #[vr a1, vj ((((((((0 : Int64) ||| ((w5 &&& (255 : Int32)).toInt64)) <<< ((8 : Int32) &&& 0x3f).toInt64) ||| ((w4 &&& (255 : Int32)).toInt64)) <<< ((8 : Int32) &&& 0x3f).toInt64) ||| ((w3 &&& (255 : Int32)).toInt64)) <<< ((8 : Int32) &&& 0x3f).toInt64) ||| ((w2 &&& (255 : Int32)).toInt64)), .second, vi (1 : Int32)] [(.int (1 : Int32)), (.ref a1), (.long (((((((((0 : Int64) ||| ((w5 &&& (255 : Int32)).toInt64)) <<< ((8 : Int32) &&& 0x3f).toInt64) ||| ((w4 &&& (255 : Int32)).toInt64)) <<< ((8 : Int32) &&& 0x3f).toInt64) ||| ((w3 &&& (255 : Int32)).toInt64)) <<< ((8 : Int32) &&& 0x3f).toInt64) ||| ((w2 &&& (255 : Int32)).toInt64)) <<< ((8 : Int32) &&& 0x3f).toInt64))]) := by
    intro t_ k_
    refine go9 t_ ?_
    refine o_baload X0 hx hZ e0 Ar10 hin10 hat10 (hb hby d2_17) ?_
    refine o_sipush X0 hx (hb hby d2_18) (v := 255) rfl ?_
    refine o_iand X0 hx (hb hby d2_21) ?_
    refine o_i2l X0 hx (hb hby d2_22) ?_
    refine o_lor X0 hx (hb hby d2_23) ?_
    refine o_lstoreN X0 hx (hb hby d2_24) (L' := #[vr a1, vj ((((((((0 : Int64) ||| ((w5 &&& (255 : Int32)).toInt64)) <<< ((8 : Int32) &&& 0x3f).toInt64) ||| ((w4 &&& (255 : Int32)).toInt64)) <<< ((8 : Int32) &&& 0x3f).toInt64) ||| ((w3 &&& (255 : Int32)).toInt64)) <<< ((8 : Int32) &&& 0x3f).toInt64) ||| ((w2 &&& (255 : Int32)).toInt64)), .second, vi (2 : Int32)]) rfl ?_
    refine o_iinc X0 hx (hb hby d2_25) rfl (L' := #[vr a1, vj ((((((((0 : Int64) ||| ((w5 &&& (255 : Int32)).toInt64)) <<< ((8 : Int32) &&& 0x3f).toInt64) ||| ((w4 &&& (255 : Int32)).toInt64)) <<< ((8 : Int32) &&& 0x3f).toInt64) ||| ((w3 &&& (255 : Int32)).toInt64)) <<< ((8 : Int32) &&& 0x3f).toInt64) ||| ((w2 &&& (255 : Int32)).toInt64)), .second, vi (1 : Int32)]) rfl ?_
    refine o_goto X0 hx (hb hby d2_28) (pc' := 7) rfl (by decide) ?_
    refine o_iloadN X0 hx (hb hby d2_7) rfl ?_
    refine o_ifNo X0 hx (hb hby d2_8) ((if0 _ _).trans (flt (by decide : ¬ ((1 : Int32) < (0 : Int32)))).1) ?_
    refine o_lloadN X0 hx (hb hby d2_11) rfl ?_
    refine o_bipush X0 hx (hb hby d2_12) (v := 8) rfl ?_
    refine o_lshl X0 hx (hb hby d2_14) ?_
    refine o_aloadN X0 hx (hb hby d2_15) rfl rfl ?_
    refine o_iloadN X0 hx (hb hby d2_16) rfl ?_
    exact k_
  obtain ⟨cl12, Ar12, -, Sz12, Nn12, Hs12, -⟩ := id V0
  have hin12 : ¬ ((1 : Int32) < 0 ∨ cl12.slots.size ≤ ((1 : Int32)).toNatClampNeg) := inb_of Sz12 ⟨by decide, by decide⟩
  have hat12 : cl12.slots[((1 : Int32)).toNatClampNeg]? = some (.int w1) := Hs12.at hin12 rfl
  have go13 : Go p e below s₁ F0 s₁ (mkF m 17 #[vr a1, vj ((((((((((0 : Int64) ||| ((w5 &&& (255 : Int32)).toInt64)) <<< ((8 : Int32) &&& 0x3f).toInt64) ||| ((w4 &&& (255 : Int32)).toInt64)) <<< ((8 : Int32) &&& 0x3f).toInt64) ||| ((w3 &&& (255 : Int32)).toInt64)) <<< ((8 : Int32) &&& 0x3f).toInt64) ||| ((w2 &&& (255 : Int32)).toInt64)) <<< ((8 : Int32) &&& 0x3f).toInt64) ||| ((w1 &&& (255 : Int32)).toInt64)), .second, vi (0 : Int32)] [(.int (0 : Int32)), (.ref a1), (.long (((((((((((0 : Int64) ||| ((w5 &&& (255 : Int32)).toInt64)) <<< ((8 : Int32) &&& 0x3f).toInt64) ||| ((w4 &&& (255 : Int32)).toInt64)) <<< ((8 : Int32) &&& 0x3f).toInt64) ||| ((w3 &&& (255 : Int32)).toInt64)) <<< ((8 : Int32) &&& 0x3f).toInt64) ||| ((w2 &&& (255 : Int32)).toInt64)) <<< ((8 : Int32) &&& 0x3f).toInt64) ||| ((w1 &&& (255 : Int32)).toInt64)) <<< ((8 : Int32) &&& 0x3f).toInt64))]) := by
    intro t_ k_
    refine go11 t_ ?_
    refine o_baload X0 hx hZ e0 Ar12 hin12 hat12 (hb hby d2_17) ?_
    refine o_sipush X0 hx (hb hby d2_18) (v := 255) rfl ?_
    refine o_iand X0 hx (hb hby d2_21) ?_
    refine o_i2l X0 hx (hb hby d2_22) ?_
    refine o_lor X0 hx (hb hby d2_23) ?_
    refine o_lstoreN X0 hx (hb hby d2_24) (L' := #[vr a1, vj ((((((((((0 : Int64) ||| ((w5 &&& (255 : Int32)).toInt64)) <<< ((8 : Int32) &&& 0x3f).toInt64) ||| ((w4 &&& (255 : Int32)).toInt64)) <<< ((8 : Int32) &&& 0x3f).toInt64) ||| ((w3 &&& (255 : Int32)).toInt64)) <<< ((8 : Int32) &&& 0x3f).toInt64) ||| ((w2 &&& (255 : Int32)).toInt64)) <<< ((8 : Int32) &&& 0x3f).toInt64) ||| ((w1 &&& (255 : Int32)).toInt64)), .second, vi (1 : Int32)]) rfl ?_
    refine o_iinc X0 hx (hb hby d2_25) rfl (L' := #[vr a1, vj ((((((((((0 : Int64) ||| ((w5 &&& (255 : Int32)).toInt64)) <<< ((8 : Int32) &&& 0x3f).toInt64) ||| ((w4 &&& (255 : Int32)).toInt64)) <<< ((8 : Int32) &&& 0x3f).toInt64) ||| ((w3 &&& (255 : Int32)).toInt64)) <<< ((8 : Int32) &&& 0x3f).toInt64) ||| ((w2 &&& (255 : Int32)).toInt64)) <<< ((8 : Int32) &&& 0x3f).toInt64) ||| ((w1 &&& (255 : Int32)).toInt64)), .second, vi (0 : Int32)]) rfl ?_
    refine o_goto X0 hx (hb hby d2_28) (pc' := 7) rfl (by decide) ?_
    refine o_iloadN X0 hx (hb hby d2_7) rfl ?_
    refine o_ifNo X0 hx (hb hby d2_8) ((if0 _ _).trans (flt (by decide : ¬ ((0 : Int32) < (0 : Int32)))).1) ?_
    refine o_lloadN X0 hx (hb hby d2_11) rfl ?_
    refine o_bipush X0 hx (hb hby d2_12) (v := 8) rfl ?_
    refine o_lshl X0 hx (hb hby d2_14) ?_
    refine o_aloadN X0 hx (hb hby d2_15) rfl rfl ?_
    refine o_iloadN X0 hx (hb hby d2_16) rfl ?_
    exact k_
  obtain ⟨cl14, Ar14, -, Sz14, Nn14, Hs14, -⟩ := id V0
  have hin14 : ¬ ((0 : Int32) < 0 ∨ cl14.slots.size ≤ ((0 : Int32)).toNatClampNeg) := inb_of Sz14 ⟨by decide, by decide⟩
  have hat14 : cl14.slots[((0 : Int32)).toNatClampNeg]? = some (.int w0) := Hs14.at hin14 rfl
  have go15 : Go p e below s₁ F0 s₁ (mkF m 32 #[vr a1, vj ((((((((((((0 : Int64) ||| ((w5 &&& (255 : Int32)).toInt64)) <<< ((8 : Int32) &&& 0x3f).toInt64) ||| ((w4 &&& (255 : Int32)).toInt64)) <<< ((8 : Int32) &&& 0x3f).toInt64) ||| ((w3 &&& (255 : Int32)).toInt64)) <<< ((8 : Int32) &&& 0x3f).toInt64) ||| ((w2 &&& (255 : Int32)).toInt64)) <<< ((8 : Int32) &&& 0x3f).toInt64) ||| ((w1 &&& (255 : Int32)).toInt64)) <<< ((8 : Int32) &&& 0x3f).toInt64) ||| ((w0 &&& (255 : Int32)).toInt64)), .second, vi (-1 : Int32)] [(.long ((((((((((((0 : Int64) ||| ((w5 &&& (255 : Int32)).toInt64)) <<< ((8 : Int32) &&& 0x3f).toInt64) ||| ((w4 &&& (255 : Int32)).toInt64)) <<< ((8 : Int32) &&& 0x3f).toInt64) ||| ((w3 &&& (255 : Int32)).toInt64)) <<< ((8 : Int32) &&& 0x3f).toInt64) ||| ((w2 &&& (255 : Int32)).toInt64)) <<< ((8 : Int32) &&& 0x3f).toInt64) ||| ((w1 &&& (255 : Int32)).toInt64)) <<< ((8 : Int32) &&& 0x3f).toInt64) ||| ((w0 &&& (255 : Int32)).toInt64)))]) := by
    intro t_ k_
    refine go13 t_ ?_
    refine o_baload X0 hx hZ e0 Ar14 hin14 hat14 (hb hby d2_17) ?_
    refine o_sipush X0 hx (hb hby d2_18) (v := 255) rfl ?_
    refine o_iand X0 hx (hb hby d2_21) ?_
    refine o_i2l X0 hx (hb hby d2_22) ?_
    refine o_lor X0 hx (hb hby d2_23) ?_
    refine o_lstoreN X0 hx (hb hby d2_24) (L' := #[vr a1, vj ((((((((((((0 : Int64) ||| ((w5 &&& (255 : Int32)).toInt64)) <<< ((8 : Int32) &&& 0x3f).toInt64) ||| ((w4 &&& (255 : Int32)).toInt64)) <<< ((8 : Int32) &&& 0x3f).toInt64) ||| ((w3 &&& (255 : Int32)).toInt64)) <<< ((8 : Int32) &&& 0x3f).toInt64) ||| ((w2 &&& (255 : Int32)).toInt64)) <<< ((8 : Int32) &&& 0x3f).toInt64) ||| ((w1 &&& (255 : Int32)).toInt64)) <<< ((8 : Int32) &&& 0x3f).toInt64) ||| ((w0 &&& (255 : Int32)).toInt64)), .second, vi (0 : Int32)]) rfl ?_
    refine o_iinc X0 hx (hb hby d2_25) rfl (L' := #[vr a1, vj ((((((((((((0 : Int64) ||| ((w5 &&& (255 : Int32)).toInt64)) <<< ((8 : Int32) &&& 0x3f).toInt64) ||| ((w4 &&& (255 : Int32)).toInt64)) <<< ((8 : Int32) &&& 0x3f).toInt64) ||| ((w3 &&& (255 : Int32)).toInt64)) <<< ((8 : Int32) &&& 0x3f).toInt64) ||| ((w2 &&& (255 : Int32)).toInt64)) <<< ((8 : Int32) &&& 0x3f).toInt64) ||| ((w1 &&& (255 : Int32)).toInt64)) <<< ((8 : Int32) &&& 0x3f).toInt64) ||| ((w0 &&& (255 : Int32)).toInt64)), .second, vi (-1 : Int32)]) rfl ?_
    refine o_goto X0 hx (hb hby d2_28) (pc' := 7) rfl (by decide) ?_
    refine o_iloadN X0 hx (hb hby d2_7) rfl ?_
    refine o_ifYes X0 hx (hb hby d2_8) (pc' := 31) rfl (by decide) ((if0 _ _).trans (tlt (by decide : (-1 : Int32) < (0 : Int32))).1) ?_
    refine o_lloadN X0 hx (hb hby d2_31) rfl ?_
    exact k_
  obtain ⟨fs, hr, hrun, hended, hW, hsame⟩ := X0.leave (v := some (.long ((((((((((((0 : Int64) ||| ((w5 &&& (255 : Int32)).toInt64)) <<< ((8 : Int32) &&& 0x3f).toInt64) ||| ((w4 &&& (255 : Int32)).toInt64)) <<< ((8 : Int32) &&& 0x3f).toInt64) ||| ((w3 &&& (255 : Int32)).toInt64)) <<< ((8 : Int32) &&& 0x3f).toInt64) ||| ((w2 &&& (255 : Int32)).toInt64)) <<< ((8 : Int32) &&& 0x3f).toInt64) ||| ((w1 &&& (255 : Int32)).toInt64)) <<< ((8 : Int32) &&& 0x3f).toInt64) ||| ((w0 &&& (255 : Int32)).toInt64)))) (fun h => by rw [Bd.returns] at h; cases h)
  refine ⟨_, _, pre0 _ (go15 _ ?_), hrun, hended, _, _, rfl, ?_, ⟨_, rfl⟩, hW, hsame.mono (by decide) (by decide)⟩
  · skip
    exact retOut X0 hx Bd.returns rfl (Or.inr (Or.inl ⟨rfl, rfl, _, rfl⟩)) (hb hby d2_32) hr
  · show Q2_6 Z a1 k1 w0 w1 w2 w3 w4 w5 h0 n0 _ s₁.heap _
    rw [e0]
    exact ⟨(congrArg (fun z => some (Value.long z)) (show ((((((((((((0 : Int64) ||| ((w5 &&& (255 : Int32)).toInt64)) <<< ((8 : Int32) &&& 0x3f).toInt64) ||| ((w4 &&& (255 : Int32)).toInt64)) <<< ((8 : Int32) &&& 0x3f).toInt64) ||| ((w3 &&& (255 : Int32)).toInt64)) <<< ((8 : Int32) &&& 0x3f).toInt64) ||| ((w2 &&& (255 : Int32)).toInt64)) <<< ((8 : Int32) &&& 0x3f).toInt64) ||| ((w1 &&& (255 : Int32)).toInt64)) <<< ((8 : Int32) &&& 0x3f).toInt64) ||| ((w0 &&& (255 : Int32)).toInt64)) = f2_6 w0 w1 w2 w3 w4 w5 from by unfold f2_6; rfl)), N0, rfl⟩

theorem d1_90 : decode method_2_code 90 = .ok (.aload_n 3, 1) := by decide +kernel
theorem d1_91 : decode method_2_code 91 = .ok (.bipush 6, 2) := by decide +kernel
theorem d1_93 : decode method_2_code 93 = .ok (.lload_n 0, 1) := by decide +kernel
theorem d1_94 : decode method_2_code 94 = .ok (.bipush 48, 2) := by decide +kernel
theorem d1_96 : decode method_2_code 96 = .ok (.lushr, 1) := by decide +kernel
theorem d1_97 : decode method_2_code 97 = .ok (.l2i, 1) := by decide +kernel
theorem d1_98 : decode method_2_code 98 = .ok (.i2b, 1) := by decide +kernel
theorem d1_99 : decode method_2_code 99 = .ok (.bastore, 1) := by decide +kernel
theorem pn_1_7 : plainName "com/example/ledgerline/ledgerline/compression/BlockInputStreamLittleEndianPinLaw" = true := by first | (simp [plainName, overriddenIn]; done) | decide +kernel
theorem ef_1_7 (m : MethodId) (x0 : Int64) : entryFrame m #[(.long x0), (.int (7 : Int32))] 4 = mkF m 0 #[vj x0, .second, vi (7 : Int32), .unset] [] := by first | (simp [entryFrame, mkF, argsToLocals, Value.category]; done) | rfl
def Q1_7 (Z : State) (q1 : Int64) (h0 : Heap) (n0 : Nat) (v : Option Value) (h : Heap) (L : List Loc) : Prop := ∃ b : Addr, ∃ kb : ClassId, v = some (.ref b) ∧ Fr n0 L ∧ Keep h0 h [] ∧ h0.size ≤ b ∧ Arv Z h b kb .byte (7 : Int32) [(.int ((q1.toInt32).toInt8.toInt32)), (.int ((((q1.toUInt64 >>> ((8 : Int32) &&& 0x3f).toInt64.toUInt64).toInt64).toInt32).toInt8.toInt32)), (.int ((((q1.toUInt64 >>> ((16 : Int32) &&& 0x3f).toInt64.toUInt64).toInt64).toInt32).toInt8.toInt32)), (.int ((((q1.toUInt64 >>> ((24 : Int32) &&& 0x3f).toInt64.toUInt64).toInt64).toInt32).toInt8.toInt32)), (.int ((((q1.toUInt64 >>> ((32 : Int32) &&& 0x3f).toInt64.toUInt64).toInt64).toInt32).toInt8.toInt32)), (.int ((((q1.toUInt64 >>> ((40 : Int32) &&& 0x3f).toInt64.toUInt64).toInt64).toInt32).toInt8.toInt32)), (.int ((((q1.toUInt64 >>> ((48 : Int32) &&& 0x3f).toInt64.toUInt64).toInt64).toInt32).toInt8.toInt32))] (.int (0 : Int32))
set_option maxRecDepth 65536 in
set_option maxHeartbeats 40000000 in
theorem rm1_7 (l : Launch) (Z : State) (a0 : Array Value) (hw : ∀ d ∈ tables_1, d.before a0 Z = true) (ws : List Jvm.Cond) (q1 : Int64) (h0 : Heap) (n0 : Nat) (Z0 : n0 ≤ h0.size) :
    MetFree l y_0 (head1 (Jvm.Cond.code y_0 method_2_code 4 (some (.array .byte)) :: ws) ({ frames := 0, cells := 1, slots := 7, locals := 0 } : Room)) (fun a U => a = #[(.long q1), (.int (7 : Int32))] ∧ Z.Warmed39 U.vm ∧ U.heap = h0) (fun _ _ _ _ _ => True) (fun _ U o U' => ∃ v L, o = .returned v ∧ Q1_7 Z q1 h0 n0 v U'.heap L ∧ FrameEnd U o U' L ({ frames := 0, cells := 1, slots := 7, locals := 0 } : Room).cells ({ frames := 0, cells := 1, slots := 7, locals := 0 } : Room).slots) := by
  refine MetFree.of_bodySF (plainFor_of_name pn_1_7) hisR ?_
  intro p e s m args below meth c s₁ Bd hml0 hP hK
  obtain ⟨rfl, hZ, hh⟩ := hP
  have hx := Bd.exec
  have hby := Bd.bytes
  have hml : c.maxLocals = 4 := hml0
  have hown : s.vm.findClass "com/example/ledgerline/ledgerline/compression/BlockInputStreamLittleEndianPinLaw" = some m.cls := findClass_of_methodNamed Bd.named
  have hnm := (name_of_methodNamed Bd.named Bd.method).1
  have X0 : Stand p l e ({ frames := 0, cells := 1, slots := 7, locals := 0 } : Room) s m #[(.long q1), (.int (7 : Int32))] below meth c s₁ [] 0 0 := Stand.of_body Bd
  have e0 : s₁.heap = h0 := by rw [← hh, Bd.state]; rfl
  have N0 := Fr.nil n0
  have K0 : Keep h0 h0 [] := Keep.refl h0 []
  obtain ⟨F0, hF0⟩ : ∃ F : JFrame, F = entryFrame m #[(.long q1), (.int (7 : Int32))] 4 := ⟨_, rfl⟩
  have pre0 : ∀ t, Steps p.tables e below (s₁.setTop F0) t → Steps p.tables e below (s₁.setTop (entryFrame m #[(.long q1), (.int (7 : Int32))] 4)) t := fun t k => hF0 ▸ k
  have go0 : Go p e below s₁ F0 s₁ (mkF m 0 #[vj q1, .second, vi (7 : Int32), .unset] []) := fun t k => castTop (hF0.trans (ef_1_7 m q1)) k
  have go1 : Go p e below s₁ F0 s₁ (mkF m 1 #[vj q1, .second, vi (7 : Int32), .unset] [(.int (7 : Int32))]) := by
    intro t_ k_
    refine go0 t_ ?_
    refine o_iloadN X0 hx (hb hby d1_0) rfl ?_
    exact k_
  obtain ⟨T2, h2, k2, X2, e2, E2, A2, st2⟩ := newP X0 hx hZ (own_w hw 5 rfl) e0 (g := (mkF m 1 #[vj q1, .second, vi (7 : Int32), .unset] [(.int (7 : Int32))])) rfl (hb hby d1_1) rfl (by decide) (cap := 7) (by decide) (by decide) (by decide) (by decide)
  obtain ⟨b2, gz2⟩ : ∃ z, z = h0.size := ⟨_, rfl⟩
  rw [← gz2] at A2 st2
  have g_b2 : n0 ≤ b2 := Nat.le_trans Z0 (Nat.le_of_eq gz2.symm)
  have sz_b2 : h0.size ≤ b2 := Nat.le_trans K0.1 (Nat.le_of_eq gz2.symm)
  have K3 : Keep h0 h2 [] := K0.ext E2
  have Z3 : n0 ≤ h2.size := Nat.le_trans Z0 E2.1
  have V2 : Arv Z h2 b2 k2 .byte (7 : Int32) [(.int (0 : Int32)), (.int (0 : Int32)), (.int (0 : Int32)), (.int (0 : Int32)), (.int (0 : Int32)), (.int (0 : Int32)), (.int (0 : Int32))] (.int (0 : Int32)) := (Arv.new A2 (by decide)).pad (pad_rep [] (.int (0 : Int32)) 7)
  have go4 : Go p e below s₁ F0 T2 (mkF m 3 #[vj q1, .second, vi (7 : Int32), .unset] [(.ref b2)]) := fun t_ k_ => go1 t_ (st2 t_ k_)
  have go5 : Go p e below s₁ F0 T2 (mkF m 13 #[vj q1, .second, vi (7 : Int32), vr b2] [(.int ((q1.toInt32).toInt8.toInt32)), (.int (0 : Int32)), (.ref b2)]) := by
    intro t_ k_
    refine go4 t_ ?_
    refine o_astoreN X2 hx (hb hby d1_3) rfl (L' := #[vj q1, .second, vi (7 : Int32), vr b2]) rfl ?_
    refine o_iloadN X2 hx (hb hby d1_4) rfl ?_
    refine o_ifNo X2 hx (hb hby d1_5) ((if0 _ _).trans (tlt (by decide : (0 : Int32) < (7 : Int32))).2.2.2) ?_
    refine o_aloadN X2 hx (hb hby d1_8) rfl rfl ?_
    refine o_iconst X2 hx (hb hby d1_9) (v := 0) rfl ?_
    refine o_lloadN X2 hx (hb hby d1_10) rfl ?_
    refine o_l2i X2 hx (hb hby d1_11) ?_
    refine o_i2b X2 hx (hb hby d1_12) ?_
    exact k_
  obtain ⟨cl6, Ar6, q6, Sz6, Nn6, Hs6, G6⟩ := id V2
  have hin6 : ¬ ((0 : Int32) < 0 ∨ cl6.slots.size ≤ ((0 : Int32)).toNatClampNeg) := inb_of Sz6 ⟨by decide, by decide⟩
  obtain ⟨T6, h6, X6, e6, W6, st6⟩ := stB X2 hx hZ e2 Ar6 (j := (0 : Int32)) hin6 (g := (mkF m 13 #[vj q1, .second, vi (7 : Int32), vr b2] [(.int ((q1.toInt32).toInt8.toInt32)), (.int (0 : Int32)), (.ref b2)])) rfl rfl (hb hby d1_13)
  rw [own_nar_byte] at W6
  have V6 : Arv Z h6 b2 k2 .byte (7 : Int32) [(.int ((q1.toInt32).toInt8.toInt32)), (.int (0 : Int32)), (.int (0 : Int32)), (.int (0 : Int32)), (.int (0 : Int32)), (.int (0 : Int32)), (.int (0 : Int32))] (.int (0 : Int32)) := Arv.set Ar6 q6 Sz6 Nn6 Hs6 G6 (fits_nar_byte _) W6 0 rfl (Nat.le_of_ble_eq_true rfl)
  have K7 : Keep h0 h6 [] := K3.wr W6 (Or.inr sz_b2)
  have Z7 : n0 ≤ h6.size := Nat.le_trans Z3 (Keep.of_wr W6).1
  have N6 := Fr.snoc X6 N0 g_b2
  have go8 : Go p e below s₁ F0 T6 (mkF m 14 #[vj q1, .second, vi (7 : Int32), vr b2] []) := fun t_ k_ => go5 t_ (st6 t_ k_)
  have go9 : Go p e below s₁ F0 T6 (mkF m 27 #[vj q1, .second, vi (7 : Int32), vr b2] [(.int ((((q1.toUInt64 >>> ((8 : Int32) &&& 0x3f).toInt64.toUInt64).toInt64).toInt32).toInt8.toInt32)), (.int (1 : Int32)), (.ref b2)]) := by
    intro t_ k_
    refine go8 t_ ?_
    refine o_iloadN X6 hx (hb hby d1_14) rfl ?_
    refine o_iconst X6 hx (hb hby d1_15) (v := 1) rfl ?_
    refine o_icmpNo X6 hx (hb hby d1_16) (tlt (by decide : (1 : Int32) < (7 : Int32))).2.2.2 ?_
    refine o_aloadN X6 hx (hb hby d1_19) rfl rfl ?_
    refine o_iconst X6 hx (hb hby d1_20) (v := 1) rfl ?_
    refine o_lloadN X6 hx (hb hby d1_21) rfl ?_
    refine o_bipush X6 hx (hb hby d1_22) (v := 8) rfl ?_
    refine o_lushr X6 hx (hb hby d1_24) ?_
    refine o_l2i X6 hx (hb hby d1_25) ?_
    refine o_i2b X6 hx (hb hby d1_26) ?_
    exact k_
  obtain ⟨cl10, Ar10, q10, Sz10, Nn10, Hs10, G10⟩ := id V6
  have hin10 : ¬ ((1 : Int32) < 0 ∨ cl10.slots.size ≤ ((1 : Int32)).toNatClampNeg) := inb_of Sz10 ⟨by decide, by decide⟩
  obtain ⟨T10, h10, X10, e10, W10, st10⟩ := stB X6 hx hZ e6 Ar10 (j := (1 : Int32)) hin10 (g := (mkF m 27 #[vj q1, .second, vi (7 : Int32), vr b2] [(.int ((((q1.toUInt64 >>> ((8 : Int32) &&& 0x3f).toInt64.toUInt64).toInt64).toInt32).toInt8.toInt32)), (.int (1 : Int32)), (.ref b2)])) rfl rfl (hb hby d1_27)
  rw [own_nar_byte] at W10
  have V10 : Arv Z h10 b2 k2 .byte (7 : Int32) [(.int ((q1.toInt32).toInt8.toInt32)), (.int ((((q1.toUInt64 >>> ((8 : Int32) &&& 0x3f).toInt64.toUInt64).toInt64).toInt32).toInt8.toInt32)), (.int (0 : Int32)), (.int (0 : Int32)), (.int (0 : Int32)), (.int (0 : Int32)), (.int (0 : Int32))] (.int (0 : Int32)) := Arv.set Ar10 q10 Sz10 Nn10 Hs10 G10 (fits_nar_byte _) W10 1 rfl (Nat.le_of_ble_eq_true rfl)
  have K11 : Keep h0 h10 [] := K7.wr W10 (Or.inr sz_b2)
  have Z11 : n0 ≤ h10.size := Nat.le_trans Z7 (Keep.of_wr W10).1
  have N10 := Fr.snoc X10 N6 g_b2
  have go12 : Go p e below s₁ F0 T10 (mkF m 28 #[vj q1, .second, vi (7 : Int32), vr b2] []) := fun t_ k_ => go9 t_ (st10 t_ k_)
  have go13 : Go p e below s₁ F0 T10 (mkF m 41 #[vj q1, .second, vi (7 : Int32), vr b2] [(.int ((((q1.toUInt64 >>> ((16 : Int32) &&& 0x3f).toInt64.toUInt64).toInt64).toInt32).toInt8.toInt32)), (.int (2 : Int32)), (.ref b2)]) := by
    intro t_ k_
    refine go12 t_ ?_
    refine o_iloadN X10 hx (hb hby d1_28) rfl ?_
    refine o_iconst X10 hx (hb hby d1_29) (v := 2) rfl ?_
    refine o_icmpNo X10 hx (hb hby d1_30) (tlt (by decide : (2 : Int32) < (7 : Int32))).2.2.2 ?_
    refine o_aloadN X10 hx (hb hby d1_33) rfl rfl ?_
    refine o_iconst X10 hx (hb hby d1_34) (v := 2) rfl ?_
    refine o_lloadN X10 hx (hb hby d1_35) rfl ?_
    refine o_bipush X10 hx (hb hby d1_36) (v := 16) rfl ?_
    refine o_lushr X10 hx (hb hby d1_38) ?_
    refine o_l2i X10 hx (hb hby d1_39) ?_
    refine o_i2b X10 hx (hb hby d1_40) ?_
    exact k_
  obtain ⟨cl14, Ar14, q14, Sz14, Nn14, Hs14, G14⟩ := id V10
  have hin14 : ¬ ((2 : Int32) < 0 ∨ cl14.slots.size ≤ ((2 : Int32)).toNatClampNeg) := inb_of Sz14 ⟨by decide, by decide⟩
  obtain ⟨T14, h14, X14, e14, W14, st14⟩ := stB X10 hx hZ e10 Ar14 (j := (2 : Int32)) hin14 (g := (mkF m 41 #[vj q1, .second, vi (7 : Int32), vr b2] [(.int ((((q1.toUInt64 >>> ((16 : Int32) &&& 0x3f).toInt64.toUInt64).toInt64).toInt32).toInt8.toInt32)), (.int (2 : Int32)), (.ref b2)])) rfl rfl (hb hby d1_41)
  rw [own_nar_byte] at W14
  have V14 : Arv Z h14 b2 k2 .byte (7 : Int32) [(.int ((q1.toInt32).toInt8.toInt32)), (.int ((((q1.toUInt64 >>> ((8 : Int32) &&& 0x3f).toInt64.toUInt64).toInt64).toInt32).toInt8.toInt32)), (.int ((((q1.toUInt64 >>> ((16 : Int32) &&& 0x3f).toInt64.toUInt64).toInt64).toInt32).toInt8.toInt32)), (.int (0 : Int32)), (.int (0 : Int32)), (.int (0 : Int32)), (.int (0 : Int32))] (.int (0 : Int32)) := Arv.set Ar14 q14 Sz14 Nn14 Hs14 G14 (fits_nar_byte _) W14 2 rfl (Nat.le_of_ble_eq_true rfl)
  have K15 : Keep h0 h14 [] := K11.wr W14 (Or.inr sz_b2)
  have Z15 : n0 ≤ h14.size := Nat.le_trans Z11 (Keep.of_wr W14).1
  have N14 := Fr.snoc X14 N10 g_b2
  have go16 : Go p e below s₁ F0 T14 (mkF m 42 #[vj q1, .second, vi (7 : Int32), vr b2] []) := fun t_ k_ => go13 t_ (st14 t_ k_)
  have go17 : Go p e below s₁ F0 T14 (mkF m 55 #[vj q1, .second, vi (7 : Int32), vr b2] [(.int ((((q1.toUInt64 >>> ((24 : Int32) &&& 0x3f).toInt64.toUInt64).toInt64).toInt32).toInt8.toInt32)), (.int (3 : Int32)), (.ref b2)]) := by
    intro t_ k_
    refine go16 t_ ?_
    refine o_iloadN X14 hx (hb hby d1_42) rfl ?_
    refine o_iconst X14 hx (hb hby d1_43) (v := 3) rfl ?_
    refine o_icmpNo X14 hx (hb hby d1_44) (tlt (by decide : (3 : Int32) < (7 : Int32))).2.2.2 ?_
    refine o_aloadN X14 hx (hb hby d1_47) rfl rfl ?_
    refine o_iconst X14 hx (hb hby d1_48) (v := 3) rfl ?_
    refine o_lloadN X14 hx (hb hby d1_49) rfl ?_
    refine o_bipush X14 hx (hb hby d1_50) (v := 24) rfl ?_
    refine o_lushr X14 hx (hb hby d1_52) ?_
    refine o_l2i X14 hx (hb hby d1_53) ?_
    refine o_i2b X14 hx (hb hby d1_54) ?_
    exact k_
  obtain ⟨cl18, Ar18, q18, Sz18, Nn18, Hs18, G18⟩ := id V14
  have hin18 : ¬ ((3 : Int32) < 0 ∨ cl18.slots.size ≤ ((3 : Int32)).toNatClampNeg) := inb_of Sz18 ⟨by decide, by decide⟩
  obtain ⟨T18, h18, X18, e18, W18, st18⟩ := stB X14 hx hZ e14 Ar18 (j := (3 : Int32)) hin18 (g := (mkF m 55 #[vj q1, .second, vi (7 : Int32), vr b2] [(.int ((((q1.toUInt64 >>> ((24 : Int32) &&& 0x3f).toInt64.toUInt64).toInt64).toInt32).toInt8.toInt32)), (.int (3 : Int32)), (.ref b2)])) rfl rfl (hb hby d1_55)
  rw [own_nar_byte] at W18
  have V18 : Arv Z h18 b2 k2 .byte (7 : Int32) [(.int ((q1.toInt32).toInt8.toInt32)), (.int ((((q1.toUInt64 >>> ((8 : Int32) &&& 0x3f).toInt64.toUInt64).toInt64).toInt32).toInt8.toInt32)), (.int ((((q1.toUInt64 >>> ((16 : Int32) &&& 0x3f).toInt64.toUInt64).toInt64).toInt32).toInt8.toInt32)), (.int ((((q1.toUInt64 >>> ((24 : Int32) &&& 0x3f).toInt64.toUInt64).toInt64).toInt32).toInt8.toInt32)), (.int (0 : Int32)), (.int (0 : Int32)), (.int (0 : Int32))] (.int (0 : Int32)) := Arv.set Ar18 q18 Sz18 Nn18 Hs18 G18 (fits_nar_byte _) W18 3 rfl (Nat.le_of_ble_eq_true rfl)
  have K19 : Keep h0 h18 [] := K15.wr W18 (Or.inr sz_b2)
  have Z19 : n0 ≤ h18.size := Nat.le_trans Z15 (Keep.of_wr W18).1
  have N18 := Fr.snoc X18 N14 g_b2
  have go20 : Go p e below s₁ F0 T18 (mkF m 56 #[vj q1, .second, vi (7 : Int32), vr b2] []) := fun t_ k_ => go17 t_ (st18 t_ k_)
  have go21 : Go p e below s₁ F0 T18 (mkF m 69 #[vj q1, .second, vi (7 : Int32), vr b2] [(.int ((((q1.toUInt64 >>> ((32 : Int32) &&& 0x3f).toInt64.toUInt64).toInt64).toInt32).toInt8.toInt32)), (.int (4 : Int32)), (.ref b2)]) := by
    intro t_ k_
    refine go20 t_ ?_
    refine o_iloadN X18 hx (hb hby d1_56) rfl ?_
    refine o_iconst X18 hx (hb hby d1_57) (v := 4) rfl ?_
    refine o_icmpNo X18 hx (hb hby d1_58) (tlt (by decide : (4 : Int32) < (7 : Int32))).2.2.2 ?_
    refine o_aloadN X18 hx (hb hby d1_61) rfl rfl ?_
    refine o_iconst X18 hx (hb hby d1_62) (v := 4) rfl ?_
    refine o_lloadN X18 hx (hb hby d1_63) rfl ?_
    refine o_bipush X18 hx (hb hby d1_64) (v := 32) rfl ?_
    refine o_lushr X18 hx (hb hby d1_66) ?_
    refine o_l2i X18 hx (hb hby d1_67) ?_
    refine o_i2b X18 hx (hb hby d1_68) ?_
    exact k_
  obtain ⟨cl22, Ar22, q22, Sz22, Nn22, Hs22, G22⟩ := id V18
  have hin22 : ¬ ((4 : Int32) < 0 ∨ cl22.slots.size ≤ ((4 : Int32)).toNatClampNeg) := inb_of Sz22 ⟨by decide, by decide⟩
  obtain ⟨T22, h22, X22, e22, W22, st22⟩ := stB X18 hx hZ e18 Ar22 (j := (4 : Int32)) hin22 (g := (mkF m 69 #[vj q1, .second, vi (7 : Int32), vr b2] [(.int ((((q1.toUInt64 >>> ((32 : Int32) &&& 0x3f).toInt64.toUInt64).toInt64).toInt32).toInt8.toInt32)), (.int (4 : Int32)), (.ref b2)])) rfl rfl (hb hby d1_69)
  rw [own_nar_byte] at W22
  have V22 : Arv Z h22 b2 k2 .byte (7 : Int32) [(.int ((q1.toInt32).toInt8.toInt32)), (.int ((((q1.toUInt64 >>> ((8 : Int32) &&& 0x3f).toInt64.toUInt64).toInt64).toInt32).toInt8.toInt32)), (.int ((((q1.toUInt64 >>> ((16 : Int32) &&& 0x3f).toInt64.toUInt64).toInt64).toInt32).toInt8.toInt32)), (.int ((((q1.toUInt64 >>> ((24 : Int32) &&& 0x3f).toInt64.toUInt64).toInt64).toInt32).toInt8.toInt32)), (.int ((((q1.toUInt64 >>> ((32 : Int32) &&& 0x3f).toInt64.toUInt64).toInt64).toInt32).toInt8.toInt32)), (.int (0 : Int32)), (.int (0 : Int32))] (.int (0 : Int32)) := Arv.set Ar22 q22 Sz22 Nn22 Hs22 G22 (fits_nar_byte _) W22 4 rfl (Nat.le_of_ble_eq_true rfl)
  have K23 : Keep h0 h22 [] := K19.wr W22 (Or.inr sz_b2)
  have Z23 : n0 ≤ h22.size := Nat.le_trans Z19 (Keep.of_wr W22).1
  have N22 := Fr.snoc X22 N18 g_b2
  have go24 : Go p e below s₁ F0 T22 (mkF m 70 #[vj q1, .second, vi (7 : Int32), vr b2] []) := fun t_ k_ => go21 t_ (st22 t_ k_)
  have go25 : Go p e below s₁ F0 T22 (mkF m 83 #[vj q1, .second, vi (7 : Int32), vr b2] [(.int ((((q1.toUInt64 >>> ((40 : Int32) &&& 0x3f).toInt64.toUInt64).toInt64).toInt32).toInt8.toInt32)), (.int (5 : Int32)), (.ref b2)]) := by
    intro t_ k_
    refine go24 t_ ?_
    refine o_iloadN X22 hx (hb hby d1_70) rfl ?_
    refine o_iconst X22 hx (hb hby d1_71) (v := 5) rfl ?_
    refine o_icmpNo X22 hx (hb hby d1_72) (tlt (by decide : (5 : Int32) < (7 : Int32))).2.2.2 ?_
    refine o_aloadN X22 hx (hb hby d1_75) rfl rfl ?_
    refine o_iconst X22 hx (hb hby d1_76) (v := 5) rfl ?_
    refine o_lloadN X22 hx (hb hby d1_77) rfl ?_
    refine o_bipush X22 hx (hb hby d1_78) (v := 40) rfl ?_
    refine o_lushr X22 hx (hb hby d1_80) ?_
    refine o_l2i X22 hx (hb hby d1_81) ?_
    refine o_i2b X22 hx (hb hby d1_82) ?_
    exact k_
  obtain ⟨cl26, Ar26, q26, Sz26, Nn26, Hs26, G26⟩ := id V22
  have hin26 : ¬ ((5 : Int32) < 0 ∨ cl26.slots.size ≤ ((5 : Int32)).toNatClampNeg) := inb_of Sz26 ⟨by decide, by decide⟩
  obtain ⟨T26, h26, X26, e26, W26, st26⟩ := stB X22 hx hZ e22 Ar26 (j := (5 : Int32)) hin26 (g := (mkF m 83 #[vj q1, .second, vi (7 : Int32), vr b2] [(.int ((((q1.toUInt64 >>> ((40 : Int32) &&& 0x3f).toInt64.toUInt64).toInt64).toInt32).toInt8.toInt32)), (.int (5 : Int32)), (.ref b2)])) rfl rfl (hb hby d1_83)
  rw [own_nar_byte] at W26
  have V26 : Arv Z h26 b2 k2 .byte (7 : Int32) [(.int ((q1.toInt32).toInt8.toInt32)), (.int ((((q1.toUInt64 >>> ((8 : Int32) &&& 0x3f).toInt64.toUInt64).toInt64).toInt32).toInt8.toInt32)), (.int ((((q1.toUInt64 >>> ((16 : Int32) &&& 0x3f).toInt64.toUInt64).toInt64).toInt32).toInt8.toInt32)), (.int ((((q1.toUInt64 >>> ((24 : Int32) &&& 0x3f).toInt64.toUInt64).toInt64).toInt32).toInt8.toInt32)), (.int ((((q1.toUInt64 >>> ((32 : Int32) &&& 0x3f).toInt64.toUInt64).toInt64).toInt32).toInt8.toInt32)), (.int ((((q1.toUInt64 >>> ((40 : Int32) &&& 0x3f).toInt64.toUInt64).toInt64).toInt32).toInt8.toInt32)), (.int (0 : Int32))] (.int (0 : Int32)) := Arv.set Ar26 q26 Sz26 Nn26 Hs26 G26 (fits_nar_byte _) W26 5 rfl (Nat.le_of_ble_eq_true rfl)
  have K27 : Keep h0 h26 [] := K23.wr W26 (Or.inr sz_b2)
  have Z27 : n0 ≤ h26.size := Nat.le_trans Z23 (Keep.of_wr W26).1
  have N26 := Fr.snoc X26 N22 g_b2
  have go28 : Go p e below s₁ F0 T26 (mkF m 84 #[vj q1, .second, vi (7 : Int32), vr b2] []) := fun t_ k_ => go25 t_ (st26 t_ k_)
  have go29 : Go p e below s₁ F0 T26 (mkF m 99 #[vj q1, .second, vi (7 : Int32), vr b2] [(.int ((((q1.toUInt64 >>> ((48 : Int32) &&& 0x3f).toInt64.toUInt64).toInt64).toInt32).toInt8.toInt32)), (.int (6 : Int32)), (.ref b2)]) := by
    intro t_ k_
    refine go28 t_ ?_
    refine o_iloadN X26 hx (hb hby d1_84) rfl ?_
    refine o_bipush X26 hx (hb hby d1_85) (v := 6) rfl ?_
    refine o_icmpNo X26 hx (hb hby d1_87) (tlt (by decide : (6 : Int32) < (7 : Int32))).2.2.2 ?_
    refine o_aloadN X26 hx (hb hby d1_90) rfl rfl ?_
    refine o_bipush X26 hx (hb hby d1_91) (v := 6) rfl ?_
    refine o_lloadN X26 hx (hb hby d1_93) rfl ?_
    refine o_bipush X26 hx (hb hby d1_94) (v := 48) rfl ?_
    refine o_lushr X26 hx (hb hby d1_96) ?_
    refine o_l2i X26 hx (hb hby d1_97) ?_
    refine o_i2b X26 hx (hb hby d1_98) ?_
    exact k_
  obtain ⟨cl30, Ar30, q30, Sz30, Nn30, Hs30, G30⟩ := id V26
  have hin30 : ¬ ((6 : Int32) < 0 ∨ cl30.slots.size ≤ ((6 : Int32)).toNatClampNeg) := inb_of Sz30 ⟨by decide, by decide⟩
  obtain ⟨T30, h30, X30, e30, W30, st30⟩ := stB X26 hx hZ e26 Ar30 (j := (6 : Int32)) hin30 (g := (mkF m 99 #[vj q1, .second, vi (7 : Int32), vr b2] [(.int ((((q1.toUInt64 >>> ((48 : Int32) &&& 0x3f).toInt64.toUInt64).toInt64).toInt32).toInt8.toInt32)), (.int (6 : Int32)), (.ref b2)])) rfl rfl (hb hby d1_99)
  rw [own_nar_byte] at W30
  have V30 : Arv Z h30 b2 k2 .byte (7 : Int32) [(.int ((q1.toInt32).toInt8.toInt32)), (.int ((((q1.toUInt64 >>> ((8 : Int32) &&& 0x3f).toInt64.toUInt64).toInt64).toInt32).toInt8.toInt32)), (.int ((((q1.toUInt64 >>> ((16 : Int32) &&& 0x3f).toInt64.toUInt64).toInt64).toInt32).toInt8.toInt32)), (.int ((((q1.toUInt64 >>> ((24 : Int32) &&& 0x3f).toInt64.toUInt64).toInt64).toInt32).toInt8.toInt32)), (.int ((((q1.toUInt64 >>> ((32 : Int32) &&& 0x3f).toInt64.toUInt64).toInt64).toInt32).toInt8.toInt32)), (.int ((((q1.toUInt64 >>> ((40 : Int32) &&& 0x3f).toInt64.toUInt64).toInt64).toInt32).toInt8.toInt32)), (.int ((((q1.toUInt64 >>> ((48 : Int32) &&& 0x3f).toInt64.toUInt64).toInt64).toInt32).toInt8.toInt32))] (.int (0 : Int32)) := Arv.set Ar30 q30 Sz30 Nn30 Hs30 G30 (fits_nar_byte _) W30 6 rfl (Nat.le_of_ble_eq_true rfl)
  have K31 : Keep h0 h30 [] := K27.wr W30 (Or.inr sz_b2)
  have Z31 : n0 ≤ h30.size := Nat.le_trans Z27 (Keep.of_wr W30).1
  have N30 := Fr.snoc X30 N26 g_b2
  have go32 : Go p e below s₁ F0 T30 (mkF m 100 #[vj q1, .second, vi (7 : Int32), vr b2] []) := fun t_ k_ => go29 t_ (st30 t_ k_)
  have go33 : Go p e below s₁ F0 T30 (mkF m 117 #[vj q1, .second, vi (7 : Int32), vr b2] [(.ref b2)]) := by
    intro t_ k_
    refine go32 t_ ?_
    refine o_iloadN X30 hx (hb hby d1_100) rfl ?_
    refine o_bipush X30 hx (hb hby d1_101) (v := 7) rfl ?_
    refine o_icmpYes X30 hx (hb hby d1_103) (pc' := 116) rfl (by decide) (flt (by decide : ¬ ((7 : Int32) < (7 : Int32)))).2.2.2 ?_
    refine o_aloadN X30 hx (hb hby d1_116) rfl rfl ?_
    exact k_
  obtain ⟨fs, hr, hrun, hended, hW, hsame⟩ := X30.leave (v := some (.ref b2)) (fun h => by rw [Bd.returns] at h; cases h)
  refine ⟨_, _, pre0 _ (go33 _ ?_), hrun, hended, _, _, rfl, ?_, ⟨_, rfl⟩, hW, hsame.mono (by decide) (by decide)⟩
  · skip
    exact retOut X30 hx Bd.returns rfl (Or.inr (Or.inr (Or.inr (Or.inr ⟨rfl, rfl, rfl⟩)))) (hb hby d1_117) hr
  · show Q1_7 Z q1 h0 n0 _ T30.heap _
    rw [e30]
    exact ⟨b2, k2, rfl, N30, K31, sz_b2, V30⟩

theorem pn_2_7 : plainName "com/example/ledgerline/ledgerline/compression/BlockInputStream" = true := by first | (simp [plainName, overriddenIn]; done) | decide +kernel
theorem ef_2_7 (m : MethodId) (x0 : Addr) : entryFrame m #[(.ref x0)] 4 = mkF m 0 #[vr x0, .unset, .unset, .unset] [] := by first | (simp [entryFrame, mkF, argsToLocals, Value.category]; done) | rfl
def f2_7 (w0 : Int32) (w1 : Int32) (w2 : Int32) (w3 : Int32) (w4 : Int32) (w5 : Int32) (w6 : Int32) : Int64 := ((((((((((((((0 : Int64) ||| ((w6 &&& (255 : Int32)).toInt64)) <<< ((8 : Int32) &&& 0x3f).toInt64) ||| ((w5 &&& (255 : Int32)).toInt64)) <<< ((8 : Int32) &&& 0x3f).toInt64) ||| ((w4 &&& (255 : Int32)).toInt64)) <<< ((8 : Int32) &&& 0x3f).toInt64) ||| ((w3 &&& (255 : Int32)).toInt64)) <<< ((8 : Int32) &&& 0x3f).toInt64) ||| ((w2 &&& (255 : Int32)).toInt64)) <<< ((8 : Int32) &&& 0x3f).toInt64) ||| ((w1 &&& (255 : Int32)).toInt64)) <<< ((8 : Int32) &&& 0x3f).toInt64) ||| ((w0 &&& (255 : Int32)).toInt64))
def Q2_7 (Z : State) (a1 : Addr) (k1 : ClassId) (w0 : Int32) (w1 : Int32) (w2 : Int32) (w3 : Int32) (w4 : Int32) (w5 : Int32) (w6 : Int32) (h0 : Heap) (n0 : Nat) (v : Option Value) (h : Heap) (L : List Loc) : Prop := v = some (.long (f2_7 w0 w1 w2 w3 w4 w5 w6)) ∧ Fr n0 L ∧ h = h0
set_option maxRecDepth 65536 in
set_option maxHeartbeats 40000000 in
theorem rm2_7 (l : Launch) (Z : State) (a0 : Array Value) (hw : ∀ d ∈ tables_1, d.before a0 Z = true) (ws : List Jvm.Cond) (a1 : Addr) (k1 : ClassId) (w0 : Int32) (w1 : Int32) (w2 : Int32) (w3 : Int32) (w4 : Int32) (w5 : Int32) (w6 : Int32) (h0 : Heap) (n0 : Nat) (Z0 : n0 ≤ h0.size) (V0 : Arv Z h0 a1 k1 .byte (7 : Int32) [(.int w0), (.int w1), (.int w2), (.int w3), (.int w4), (.int w5), (.int w6)] (.int (0 : Int32))) :
    MetFree l y_1 (head1 (Jvm.Cond.code y_1 prog_3_method_9_code 4 (some .long) :: ws) ({ frames := 0, cells := 0, slots := 0, locals := 0 } : Room)) (fun a U => a = #[(.ref a1)] ∧ Z.Warmed39 U.vm ∧ U.heap = h0) (fun _ _ _ _ _ => True) (fun _ U o U' => ∃ v L, o = .returned v ∧ Q2_7 Z a1 k1 w0 w1 w2 w3 w4 w5 w6 h0 n0 v U'.heap L ∧ FrameEnd U o U' L ({ frames := 0, cells := 0, slots := 0, locals := 0 } : Room).cells ({ frames := 0, cells := 0, slots := 0, locals := 0 } : Room).slots) := by
  refine MetFree.of_bodySF (plainFor_of_name pn_2_7) hisR ?_
  intro p e s m args below meth c s₁ Bd hml0 hP hK
  obtain ⟨rfl, hZ, hh⟩ := hP
  have hx := Bd.exec
  have hby := Bd.bytes
  have hml : c.maxLocals = 4 := hml0
  have hown : s.vm.findClass "com/example/ledgerline/ledgerline/compression/BlockInputStream" = some m.cls := findClass_of_methodNamed Bd.named
  have hnm := (name_of_methodNamed Bd.named Bd.method).1
  have X0 : Stand p l e ({ frames := 0, cells := 0, slots := 0, locals := 0 } : Room) s m #[(.ref a1)] below meth c s₁ [] 0 0 := Stand.of_body Bd
  have e0 : s₁.heap = h0 := by rw [← hh, Bd.state]; rfl
  have N0 := Fr.nil n0
  obtain ⟨F0, hF0⟩ : ∃ F : JFrame, F = entryFrame m #[(.ref a1)] 4 := ⟨_, rfl⟩
  have pre0 : ∀ t, Steps p.tables e below (s₁.setTop F0) t → Steps p.tables e below (s₁.setTop (entryFrame m #[(.ref a1)] 4)) t := fun t k => hF0 ▸ k
  have go0 : Go p e below s₁ F0 s₁ (mkF m 0 #[vr a1, .unset, .unset, .unset] []) := fun t k => castTop (hF0.trans (ef_2_7 m a1)) k
  have go1 : Go p e below s₁ F0 s₁ (mkF m 3 #[vr a1, vj (0 : Int64), .second, .unset] [(.ref a1)]) := by
    intro t_ k_
    refine go0 t_ ?_
    refine o_lconst X0 hx (hb hby d2_0) (v := 0) rfl ?_
    refine o_lstoreN X0 hx (hb hby d2_1) (L' := #[vr a1, vj (0 : Int64), .second, .unset]) rfl ?_
    refine o_aloadN X0 hx (hb hby d2_2) rfl rfl ?_
    exact k_
  obtain ⟨cl2, Ar2, -, Sz2, Nn2, -, -⟩ := id V0
  have go3 : Go p e below s₁ F0 s₁ (mkF m 17 #[vr a1, vj (0 : Int64), .second, vi (6 : Int32)] [(.int (6 : Int32)), (.ref a1), (.long (0 : Int64))]) := by
    intro t_ k_
    refine go1 t_ ?_
    refine o_len X0 hx hZ e0 Ar2 Sz2 Nn2 (hb hby d2_3) ?_
    refine o_iconst X0 hx (hb hby d2_4) (v := 1) rfl ?_
    refine o_isubE X0 hx (hb hby d2_5) (v := 6) rfl ?_
    refine o_istoreN X0 hx (hb hby d2_6) (L' := #[vr a1, vj (0 : Int64), .second, vi (6 : Int32)]) rfl ?_
    refine o_iloadN X0 hx (hb hby d2_7) rfl ?_
    refine o_ifNo X0 hx (hb hby d2_8) ((if0 _ _).trans (flt (by decide : ¬ ((6 : Int32) < (0 : Int32)))).1) ?_
    refine o_lloadN X0 hx (hb hby d2_11) rfl ?_
    refine o_bipush X0 hx (hb hby d2_12) (v := 8) rfl ?_
    refine o_lshlE X0 hx (hb hby d2_14) (v := 0) rfl ?_
    refine o_aloadN X0 hx (hb hby d2_15) rfl rfl ?_
    refine o_iloadN X0 hx (hb hby d2_16) rfl ?_
    exact k_
  obtain ⟨cl4, Ar4, -, Sz4, Nn4, Hs4, -⟩ := id V0
  have hin4 : ¬ ((6 : Int32) < 0 ∨ cl4.slots.size ≤ ((6 : Int32)).toNatClampNeg) := inb_of Sz4 ⟨by decide, by decide⟩
  have hat4 : cl4.slots[((6 : Int32)).toNatClampNeg]? = some (.int w6) := Hs4.at hin4 rfl
  have go5 : Go p e below s₁ F0 s₁ (mkF m 17 #[vr a1, vj ((0 : Int64) ||| ((w6 &&& (255 : Int32)).toInt64)), .second, vi (5 : Int32)] [(.int (5 : Int32)), (.ref a1), (.long (((0 : Int64) ||| ((w6 &&& (255 : Int32)).toInt64)) <<< ((8 : Int32) &&& 0x3f).toInt64))]) := by
    intro t_ k_
    refine go3 t_ ?_
    refine o_baload X0 hx hZ e0 Ar4 hin4 hat4 (hb hby d2_17) ?_
    refine o_sipush X0 hx (hb hby d2_18) (v := 255) rfl ?_
    refine o_iand X0 hx (hb hby d2_21) ?_
    refine o_i2l X0 hx (hb hby d2_22) ?_
    refine o_lor X0 hx (hb hby d2_23) ?_
    refine o_lstoreN X0 hx (hb hby d2_24) (L' := #[vr a1, vj ((0 : Int64) ||| ((w6 &&& (255 : Int32)).toInt64)), .second, vi (6 : Int32)]) rfl ?_
    refine o_iinc X0 hx (hb hby d2_25) rfl (L' := #[vr a1, vj ((0 : Int64) ||| ((w6 &&& (255 : Int32)).toInt64)), .second, vi (5 : Int32)]) rfl ?_
    refine o_goto X0 hx (hb hby d2_28) (pc' := 7) rfl (by decide) ?_
    refine o_iloadN X0 hx (hb hby d2_7) rfl ?_
    refine o_ifNo X0 hx (hb hby d2_8) ((if0 _ _).trans (flt (by decide : ¬ ((5 : Int32) < (0 : Int32)))).1) ?_
    refine o_lloadN X0 hx (hb hby d2_11) rfl ?_
    refine o_bipush X0 hx (hb hby d2_12) (v := 8) rfl ?_
    refine o_lshl X0 hx (hb hby d2_14) ?_
    refine o_aloadN X0 hx (hb hby d2_15) rfl rfl ?_
    refine o_iloadN X0 hx (hb hby d2_16) rfl ?_
    exact k_
  obtain ⟨cl6, Ar6, -, Sz6, Nn6, Hs6, -⟩ := id V0
  have hin6 : ¬ ((5 : Int32) < 0 ∨ cl6.slots.size ≤ ((5 : Int32)).toNatClampNeg) := inb_of Sz6 ⟨by decide, by decide⟩
  have hat6 : cl6.slots[((5 : Int32)).toNatClampNeg]? = some (.int w5) := Hs6.at hin6 rfl
  have go7 : Go p e below s₁ F0 s₁ (mkF m 17 #[vr a1, vj ((((0 : Int64) ||| ((w6 &&& (255 : Int32)).toInt64)) <<< ((8 : Int32) &&& 0x3f).toInt64) ||| ((w5 &&& (255 : Int32)).toInt64)), .second, vi (4 : Int32)] [(.int (4 : Int32)), (.ref a1), (.long (((((0 : Int64) ||| ((w6 &&& (255 : Int32)).toInt64)) <<< ((8 : Int32) &&& 0x3f).toInt64) ||| ((w5 &&& (255 : Int32)).toInt64)) <<< ((8 : Int32) &&& 0x3f).toInt64))]) := by
    intro t_ k_
    refine go5 t_ ?_
    refine o_baload X0 hx hZ e0 Ar6 hin6 hat6 (hb hby d2_17) ?_
    refine o_sipush X0 hx (hb hby d2_18) (v := 255) rfl ?_
    refine o_iand X0 hx (hb hby d2_21) ?_
    refine o_i2l X0 hx (hb hby d2_22) ?_
    refine o_lor X0 hx (hb hby d2_23) ?_
    refine o_lstoreN X0 hx (hb hby d2_24) (L' := #[vr a1, vj ((((0 : Int64) ||| ((w6 &&& (255 : Int32)).toInt64)) <<< ((8 : Int32) &&& 0x3f).toInt64) ||| ((w5 &&& (255 : Int32)).toInt64)), .second, vi (5 : Int32)]) rfl ?_
    refine o_iinc X0 hx (hb hby d2_25) rfl (L' := #[vr a1, vj ((((0 : Int64) ||| ((w6 &&& (255 : Int32)).toInt64)) <<< ((8 : Int32) &&& 0x3f).toInt64) ||| ((w5 &&& (255 : Int32)).toInt64)), .second, vi (4 : Int32)]) rfl ?_
    refine o_goto X0 hx (hb hby d2_28) (pc' := 7) rfl (by decide) ?_
    refine o_iloadN X0 hx (hb hby d2_7) rfl ?_
    refine o_ifNo X0 hx (hb hby d2_8) ((if0 _ _).trans (flt (by decide : ¬ ((4 : Int32) < (0 : Int32)))).1) ?_
    refine o_lloadN X0 hx (hb hby d2_11) rfl ?_
    refine o_bipush X0 hx (hb hby d2_12) (v := 8) rfl ?_
    refine o_lshl X0 hx (hb hby d2_14) ?_
    refine o_aloadN X0 hx (hb hby d2_15) rfl rfl ?_
    refine o_iloadN X0 hx (hb hby d2_16) rfl ?_
    exact k_
  obtain ⟨cl8, Ar8, -, Sz8, Nn8, Hs8, -⟩ := id V0
  have hin8 : ¬ ((4 : Int32) < 0 ∨ cl8.slots.size ≤ ((4 : Int32)).toNatClampNeg) := inb_of Sz8 ⟨by decide, by decide⟩
  have hat8 : cl8.slots[((4 : Int32)).toNatClampNeg]? = some (.int w4) := Hs8.at hin8 rfl
  have go9 : Go p e below s₁ F0 s₁ (mkF m 17 #[vr a1, vj ((((((0 : Int64) ||| ((w6 &&& (255 : Int32)).toInt64)) <<< ((8 : Int32) &&& 0x3f).toInt64) ||| ((w5 &&& (255 : Int32)).toInt64)) <<< ((8 : Int32) &&& 0x3f).toInt64) ||| ((w4 &&& (255 : Int32)).toInt64)), .second, vi (3 : Int32)] [(.int (3 : Int32)), (.ref a1), (.long (((((((0 : Int64) ||| ((w6 &&& (255 : Int32)).toInt64)) <<< ((8 : Int32) &&& 0x3f).toInt64) ||| ((w5 &&& (255 : Int32)).toInt64)) <<< ((8 : Int32) &&& 0x3f).toInt64) ||| ((w4 &&& (255 : Int32)).toInt64)) <<< ((8 : Int32) &&& 0x3f).toInt64))]) := by
    intro t_ k_
    refine go7 t_ ?_
    refine o_baload X0 hx hZ e0 Ar8 hin8 hat8 (hb hby d2_17) ?_
    refine o_sipush X0 hx (hb hby d2_18) (v := 255) rfl ?_
    refine o_iand X0 hx (hb hby d2_21) ?_
    refine o_i2l X0 hx (hb hby d2_22) ?_
    refine o_lor X0 hx (hb hby d2_23) ?_
    refine o_lstoreN X0 hx (hb hby d2_24) (L' := #[vr a1, vj ((((((0 : Int64) ||| ((w6 &&& (255 : Int32)).toInt64)) <<< ((8 : Int32) &&& 0x3f).toInt64) ||| ((w5 &&& (255 : Int32)).toInt64)) <<< ((8 : Int32) &&& 0x3f).toInt64) ||| ((w4 &&& (255 : Int32)).toInt64)), .second, vi (4 : Int32)]) rfl ?_
    refine o_iinc X0 hx (hb hby d2_25) rfl (L' := #[vr a1, vj ((((((0 : Int64) ||| ((w6 &&& (255 : Int32)).toInt64)) <<< ((8 : Int32) &&& 0x3f).toInt64) ||| ((w5 &&& (255 : Int32)).toInt64)) <<< ((8 : Int32) &&& 0x3f).toInt64) ||| ((w4 &&& (255 : Int32)).toInt64)), .second, vi (3 : Int32)]) rfl ?_
    refine o_goto X0 hx (hb hby d2_28) (pc' := 7) rfl (by decide) ?_
    refine o_iloadN X0 hx (hb hby d2_7) rfl ?_
    refine o_ifNo X0 hx (hb hby d2_8) ((if0 _ _).trans (flt (by decide : ¬ ((3 : Int32) < (0 : Int32)))).1) ?_
    refine o_lloadN X0 hx (hb hby d2_11) rfl ?_
    refine o_bipush X0 hx (hb hby d2_12) (v := 8) rfl ?_
    refine o_lshl X0 hx (hb hby d2_14) ?_
    refine o_aloadN X0 hx (hb hby d2_15) rfl rfl ?_
    refine o_iloadN X0 hx (hb hby d2_16) rfl ?_
    exact k_
  obtain ⟨cl10, Ar10, -, Sz10, Nn10, Hs10, -⟩ := id V0
  have hin10 : ¬ ((3 : Int32) < 0 ∨ cl10.slots.size ≤ ((3 : Int32)).toNatClampNeg) := inb_of Sz10 ⟨by decide, by decide⟩
  have hat10 : cl10.slots[((3 : Int32)).toNatClampNeg]? = some (.int w3) := Hs10.at hin10 rfl
  have go11 : Go p e below s₁ F0 s₁ (mkF m 17 #[vr a1, vj ((((((((0 : Int64) ||| ((w6 &&& (255 : Int32)).toInt64)) <<< ((8 : Int32) &&& 0x3f).toInt64) ||| ((w5 &&& (255 : Int32)).toInt64)) <<< ((8 : Int32) &&& 0x3f).toInt64) ||| ((w4 &&& (255 : Int32)).toInt64)) <<< ((8 : Int32) &&& 0x3f).toInt64) ||| ((w3 &&& (255 : Int32)).toInt64)), .second, vi (2 : Int32)] [(.int (2 : Int32)), (.ref a1), (.long (((((((((0 : Int64) ||| ((w6 &&& (255 : Int32)).toInt64)) <<< ((8 : Int32) &&& 0x3f).toInt64) ||| ((w5 &&& (255 : Int32)).toInt64)) <<< ((8 : Int32) &&& 0x3f).toInt64) ||| ((w4 &&& (255 : Int32)).toInt64)) <<< ((8 : Int32) &&& 0x3f).toInt64) ||| ((w3 &&& (255 : Int32)).toInt64)) <<< ((8 : Int32) &&& 0x3f).toInt64))]) := by
    intro t_ k_
    refine go9 t_ ?_
    refine o_baload X0 hx hZ e0 Ar10 hin10 hat10 (hb hby d2_17) ?_
    refine o_sipush X0 hx (hb hby d2_18) (v := 255) rfl ?_
    refine o_iand X0 hx (hb hby d2_21) ?_
    refine o_i2l X0 hx (hb hby d2_22) ?_
    refine o_lor X0 hx (hb hby d2_23) ?_
    refine o_lstoreN X0 hx (hb hby d2_24) (L' := #[vr a1, vj ((((((((0 : Int64) ||| ((w6 &&& (255 : Int32)).toInt64)) <<< ((8 : Int32) &&& 0x3f).toInt64) ||| ((w5 &&& (255 : Int32)).toInt64)) <<< ((8 : Int32) &&& 0x3f).toInt64) ||| ((w4 &&& (255 : Int32)).toInt64)) <<< ((8 : Int32) &&& 0x3f).toInt64) ||| ((w3 &&& (255 : Int32)).toInt64)), .second, vi (3 : Int32)]) rfl ?_
    refine o_iinc X0 hx (hb hby d2_25) rfl (L' := #[vr a1, vj ((((((((0 : Int64) ||| ((w6 &&& (255 : Int32)).toInt64)) <<< ((8 : Int32) &&& 0x3f).toInt64) ||| ((w5 &&& (255 : Int32)).toInt64)) <<< ((8 : Int32) &&& 0x3f).toInt64) ||| ((w4 &&& (255 : Int32)).toInt64)) <<< ((8 : Int32) &&& 0x3f).toInt64) ||| ((w3 &&& (255 : Int32)).toInt64)), .second, vi (2 : Int32)]) rfl ?_
    refine o_goto X0 hx (hb hby d2_28) (pc' := 7) rfl (by decide) ?_
    refine o_iloadN X0 hx (hb hby d2_7) rfl ?_
    refine o_ifNo X0 hx (hb hby d2_8) ((if0 _ _).trans (flt (by decide : ¬ ((2 : Int32) < (0 : Int32)))).1) ?_
    refine o_lloadN X0 hx (hb hby d2_11) rfl ?_
    refine o_bipush X0 hx (hb hby d2_12) (v := 8) rfl ?_
    refine o_lshl X0 hx (hb hby d2_14) ?_
    refine o_aloadN X0 hx (hb hby d2_15) rfl rfl ?_
    refine o_iloadN X0 hx (hb hby d2_16) rfl ?_
    exact k_
  obtain ⟨cl12, Ar12, -, Sz12, Nn12, Hs12, -⟩ := id V0
  have hin12 : ¬ ((2 : Int32) < 0 ∨ cl12.slots.size ≤ ((2 : Int32)).toNatClampNeg) := inb_of Sz12 ⟨by decide, by decide⟩
  have hat12 : cl12.slots[((2 : Int32)).toNatClampNeg]? = some (.int w2) := Hs12.at hin12 rfl
  have go13 : Go p e below s₁ F0 s₁ (mkF m 17 #[vr a1, vj ((((((((((0 : Int64) ||| ((w6 &&& (255 : Int32)).toInt64)) <<< ((8 : Int32) &&& 0x3f).toInt64) ||| ((w5 &&& (255 : Int32)).toInt64)) <<< ((8 : Int32) &&& 0x3f).toInt64) ||| ((w4 &&& (255 : Int32)).toInt64)) <<< ((8 : Int32) &&& 0x3f).toInt64) ||| ((w3 &&& (255 : Int32)).toInt64)) <<< ((8 : Int32) &&& 0x3f).toInt64) ||| ((w2 &&& (255 : Int32)).toInt64)), .second, vi (1 : Int32)] [(.int (1 : Int32)), (.ref a1), (.long (((((((((((0 : Int64) ||| ((w6 &&& (255 : Int32)).toInt64)) <<< ((8 : Int32) &&& 0x3f).toInt64) ||| ((w5 &&& (255 : Int32)).toInt64)) <<< ((8 : Int32) &&& 0x3f).toInt64) ||| ((w4 &&& (255 : Int32)).toInt64)) <<< ((8 : Int32) &&& 0x3f).toInt64) ||| ((w3 &&& (255 : Int32)).toInt64)) <<< ((8 : Int32) &&& 0x3f).toInt64) ||| ((w2 &&& (255 : Int32)).toInt64)) <<< ((8 : Int32) &&& 0x3f).toInt64))]) := by
    intro t_ k_
    refine go11 t_ ?_
    refine o_baload X0 hx hZ e0 Ar12 hin12 hat12 (hb hby d2_17) ?_
    refine o_sipush X0 hx (hb hby d2_18) (v := 255) rfl ?_
    refine o_iand X0 hx (hb hby d2_21) ?_
    refine o_i2l X0 hx (hb hby d2_22) ?_
    refine o_lor X0 hx (hb hby d2_23) ?_
    refine o_lstoreN X0 hx (hb hby d2_24) (L' := #[vr a1, vj ((((((((((0 : Int64) ||| ((w6 &&& (255 : Int32)).toInt64)) <<< ((8 : Int32) &&& 0x3f).toInt64) ||| ((w5 &&& (255 : Int32)).toInt64)) <<< ((8 : Int32) &&& 0x3f).toInt64) ||| ((w4 &&& (255 : Int32)).toInt64)) <<< ((8 : Int32) &&& 0x3f).toInt64) ||| ((w3 &&& (255 : Int32)).toInt64)) <<< ((8 : Int32) &&& 0x3f).toInt64) ||| ((w2 &&& (255 : Int32)).toInt64)), .second, vi (2 : Int32)]) rfl ?_
    refine o_iinc X0 hx (hb hby d2_25) rfl (L' := #[vr a1, vj ((((((((((0 : Int64) ||| ((w6 &&& (255 : Int32)).toInt64)) <<< ((8 : Int32) &&& 0x3f).toInt64) ||| ((w5 &&& (255 : Int32)).toInt64)) <<< ((8 : Int32) &&& 0x3f).toInt64) ||| ((w4 &&& (255 : Int32)).toInt64)) <<< ((8 : Int32) &&& 0x3f).toInt64) ||| ((w3 &&& (255 : Int32)).toInt64)) <<< ((8 : Int32) &&& 0x3f).toInt64) ||| ((w2 &&& (255 : Int32)).toInt64)), .second, vi (1 : Int32)]) rfl ?_
    refine o_goto X0 hx (hb hby d2_28) (pc' := 7) rfl (by decide) ?_
    refine o_iloadN X0 hx (hb hby d2_7) rfl ?_
    refine o_ifNo X0 hx (hb hby d2_8) ((if0 _ _).trans (flt (by decide : ¬ ((1 : Int32) < (0 : Int32)))).1) ?_
    refine o_lloadN X0 hx (hb hby d2_11) rfl ?_
    refine o_bipush X0 hx (hb hby d2_12) (v := 8) rfl ?_
    refine o_lshl X0 hx (hb hby d2_14) ?_
    refine o_aloadN X0 hx (hb hby d2_15) rfl rfl ?_
    refine o_iloadN X0 hx (hb hby d2_16) rfl ?_
    exact k_
  obtain ⟨cl14, Ar14, -, Sz14, Nn14, Hs14, -⟩ := id V0
  have hin14 : ¬ ((1 : Int32) < 0 ∨ cl14.slots.size ≤ ((1 : Int32)).toNatClampNeg) := inb_of Sz14 ⟨by decide, by decide⟩
  have hat14 : cl14.slots[((1 : Int32)).toNatClampNeg]? = some (.int w1) := Hs14.at hin14 rfl
  have go15 : Go p e below s₁ F0 s₁ (mkF m 17 #[vr a1, vj ((((((((((((0 : Int64) ||| ((w6 &&& (255 : Int32)).toInt64)) <<< ((8 : Int32) &&& 0x3f).toInt64) ||| ((w5 &&& (255 : Int32)).toInt64)) <<< ((8 : Int32) &&& 0x3f).toInt64) ||| ((w4 &&& (255 : Int32)).toInt64)) <<< ((8 : Int32) &&& 0x3f).toInt64) ||| ((w3 &&& (255 : Int32)).toInt64)) <<< ((8 : Int32) &&& 0x3f).toInt64) ||| ((w2 &&& (255 : Int32)).toInt64)) <<< ((8 : Int32) &&& 0x3f).toInt64) ||| ((w1 &&& (255 : Int32)).toInt64)), .second, vi (0 : Int32)] [(.int (0 : Int32)), (.ref a1), (.long (((((((((((((0 : Int64) ||| ((w6 &&& (255 : Int32)).toInt64)) <<< ((8 : Int32) &&& 0x3f).toInt64) ||| ((w5 &&& (255 : Int32)).toInt64)) <<< ((8 : Int32) &&& 0x3f).toInt64) ||| ((w4 &&& (255 : Int32)).toInt64)) <<< ((8 : Int32) &&& 0x3f).toInt64) ||| ((w3 &&& (255 : Int32)).toInt64)) <<< ((8 : Int32) &&& 0x3f).toInt64) ||| ((w2 &&& (255 : Int32)).toInt64)) <<< ((8 : Int32) &&& 0x3f).toInt64) ||| ((w1 &&& (255 : Int32)).toInt64)) <<< ((8 : Int32) &&& 0x3f).toInt64))]) := by
    intro t_ k_
    refine go13 t_ ?_
    refine o_baload X0 hx hZ e0 Ar14 hin14 hat14 (hb hby d2_17) ?_
    refine o_sipush X0 hx (hb hby d2_18) (v := 255) rfl ?_
    refine o_iand X0 hx (hb hby d2_21) ?_
    refine o_i2l X0 hx (hb hby d2_22) ?_
    refine o_lor X0 hx (hb hby d2_23) ?_
    refine o_lstoreN X0 hx (hb hby d2_24) (L' := #[vr a1, vj ((((((((((((0 : Int64) ||| ((w6 &&& (255 : Int32)).toInt64)) <<< ((8 : Int32) &&& 0x3f).toInt64) ||| ((w5 &&& (255 : Int32)).toInt64)) <<< ((8 : Int32) &&& 0x3f).toInt64) ||| ((w4 &&& (255 : Int32)).toInt64)) <<< ((8 : Int32) &&& 0x3f).toInt64) ||| ((w3 &&& (255 : Int32)).toInt64)) <<< ((8 : Int32) &&& 0x3f).toInt64) ||| ((w2 &&& (255 : Int32)).toInt64)) <<< ((8 : Int32) &&& 0x3f).toInt64) ||| ((w1 &&& (255 : Int32)).toInt64)), .second, vi (1 : Int32)]) rfl ?_
    refine o_iinc X0 hx (hb hby d2_25) rfl (L' := #[vr a1, vj ((((((((((((0 : Int64) ||| ((w6 &&& (255 : Int32)).toInt64)) <<< ((8 : Int32) &&& 0x3f).toInt64) ||| ((w5 &&& (255 : Int32)).toInt64)) <<< ((8 : Int32) &&& 0x3f).toInt64) ||| ((w4 &&& (255 : Int32)).toInt64)) <<< ((8 : Int32) &&& 0x3f).toInt64) ||| ((w3 &&& (255 : Int32)).toInt64)) <<< ((8 : Int32) &&& 0x3f).toInt64) ||| ((w2 &&& (255 : Int32)).toInt64)) <<< ((8 : Int32) &&& 0x3f).toInt64) ||| ((w1 &&& (255 : Int32)).toInt64)), .second, vi (0 : Int32)]) rfl ?_
    refine o_goto X0 hx (hb hby d2_28) (pc' := 7) rfl (by decide) ?_
    refine o_iloadN X0 hx (hb hby d2_7) rfl ?_
    refine o_ifNo X0 hx (hb hby d2_8) ((if0 _ _).trans (flt (by decide : ¬ ((0 : Int32) < (0 : Int32)))).1) ?_
    refine o_lloadN X0 hx (hb hby d2_11) rfl ?_
    refine o_bipush X0 hx (hb hby d2_12) (v := 8) rfl ?_
    refine o_lshl X0 hx (hb hby d2_14) ?_
    refine o_aloadN X0 hx (hb hby d2_15) rfl rfl ?_
    refine o_iloadN X0 hx (hb hby d2_16) rfl ?_
    exact k_
  obtain ⟨cl16, Ar16, -, Sz16, Nn16, Hs16, -⟩ := id V0
  have hin16 : ¬ ((0 : Int32) < 0 ∨ cl16.slots.size ≤ ((0 : Int32)).toNatClampNeg) := inb_of Sz16 ⟨by decide, by decide⟩
  have hat16 : cl16.slots[((0 : Int32)).toNatClampNeg]? = some (.int w0) := Hs16.at hin16 rfl
  have go17 : Go p e below s₁ F0 s₁ (mkF m 32 #[vr a1, vj ((((((((((((((0 : Int64) ||| ((w6 &&& (255 : Int32)).toInt64)) <<< ((8 : Int32) &&& 0x3f).toInt64) ||| ((w5 &&& (255 : Int32)).toInt64)) <<< ((8 : Int32) &&& 0x3f).toInt64) ||| ((w4 &&& (255 : Int32)).toInt64)) <<< ((8 : Int32) &&& 0x3f).toInt64) ||| ((w3 &&& (255 : Int32)).toInt64)) <<< ((8 : Int32) &&& 0x3f).toInt64) ||| ((w2 &&& (255 : Int32)).toInt64)) <<< ((8 : Int32) &&& 0x3f).toInt64) ||| ((w1 &&& (255 : Int32)).toInt64)) <<< ((8 : Int32) &&& 0x3f).toInt64) ||| ((w0 &&& (255 : Int32)).toInt64)), .second, vi (-1 : Int32)] [(.long ((((((((((((((0 : Int64) ||| ((w6 &&& (255 : Int32)).toInt64)) <<< ((8 : Int32) &&& 0x3f).toInt64) ||| ((w5 &&& (255 : Int32)).toInt64)) <<< ((8 : Int32) &&& 0x3f).toInt64) ||| ((w4 &&& (255 : Int32)).toInt64)) <<< ((8 : Int32) &&& 0x3f).toInt64) ||| ((w3 &&& (255 : Int32)).toInt64)) <<< ((8 : Int32) &&& 0x3f).toInt64) ||| ((w2 &&& (255 : Int32)).toInt64)) <<< ((8 : Int32) &&& 0x3f).toInt64) ||| ((w1 &&& (255 : Int32)).toInt64)) <<< ((8 : Int32) &&& 0x3f).toInt64) ||| ((w0 &&& (255 : Int32)).toInt64)))]) := by
    intro t_ k_
    refine go15 t_ ?_
    refine o_baload X0 hx hZ e0 Ar16 hin16 hat16 (hb hby d2_17) ?_
    refine o_sipush X0 hx (hb hby d2_18) (v := 255) rfl ?_
    refine o_iand X0 hx (hb hby d2_21) ?_
    refine o_i2l X0 hx (hb hby d2_22) ?_
    refine o_lor X0 hx (hb hby d2_23) ?_
    refine o_lstoreN X0 hx (hb hby d2_24) (L' := #[vr a1, vj ((((((((((((((0 : Int64) ||| ((w6 &&& (255 : Int32)).toInt64)) <<< ((8 : Int32) &&& 0x3f).toInt64) ||| ((w5 &&& (255 : Int32)).toInt64)) <<< ((8 : Int32) &&& 0x3f).toInt64) ||| ((w4 &&& (255 : Int32)).toInt64)) <<< ((8 : Int32) &&& 0x3f).toInt64) ||| ((w3 &&& (255 : Int32)).toInt64)) <<< ((8 : Int32) &&& 0x3f).toInt64) ||| ((w2 &&& (255 : Int32)).toInt64)) <<< ((8 : Int32) &&& 0x3f).toInt64) ||| ((w1 &&& (255 : Int32)).toInt64)) <<< ((8 : Int32) &&& 0x3f).toInt64) ||| ((w0 &&& (255 : Int32)).toInt64)), .second, vi (0 : Int32)]) rfl ?_
    refine o_iinc X0 hx (hb hby d2_25) rfl (L' := #[vr a1, vj ((((((((((((((0 : Int64) ||| ((w6 &&& (255 : Int32)).toInt64)) <<< ((8 : Int32) &&& 0x3f).toInt64) ||| ((w5 &&& (255 : Int32)).toInt64)) <<< ((8 : Int32) &&& 0x3f).toInt64) ||| ((w4 &&& (255 : Int32)).toInt64)) <<< ((8 : Int32) &&& 0x3f).toInt64) ||| ((w3 &&& (255 : Int32)).toInt64)) <<< ((8 : Int32) &&& 0x3f).toInt64) ||| ((w2 &&& (255 : Int32)).toInt64)) <<< ((8 : Int32) &&& 0x3f).toInt64) ||| ((w1 &&& (255 : Int32)).toInt64)) <<< ((8 : Int32) &&& 0x3f).toInt64) ||| ((w0 &&& (255 : Int32)).toInt64)), .second, vi (-1 : Int32)]) rfl ?_
    refine o_goto X0 hx (hb hby d2_28) (pc' := 7) rfl (by decide) ?_
    refine o_iloadN X0 hx (hb hby d2_7) rfl ?_
    refine o_ifYes X0 hx (hb hby d2_8) (pc' := 31) rfl (by decide) ((if0 _ _).trans (tlt (by decide : (-1 : Int32) < (0 : Int32))).1) ?_
    refine o_lloadN X0 hx (hb hby d2_31) rfl ?_
    exact k_
  obtain ⟨fs, hr, hrun, hended, hW, hsame⟩ := X0.leave (v := some (.long ((((((((((((((0 : Int64) ||| ((w6 &&& (255 : Int32)).toInt64)) <<< ((8 : Int32) &&& 0x3f).toInt64) ||| ((w5 &&& (255 : Int32)).toInt64)) <<< ((8 : Int32) &&& 0x3f).toInt64) ||| ((w4 &&& (255 : Int32)).toInt64)) <<< ((8 : Int32) &&& 0x3f).toInt64) ||| ((w3 &&& (255 : Int32)).toInt64)) <<< ((8 : Int32) &&& 0x3f).toInt64) ||| ((w2 &&& (255 : Int32)).toInt64)) <<< ((8 : Int32) &&& 0x3f).toInt64) ||| ((w1 &&& (255 : Int32)).toInt64)) <<< ((8 : Int32) &&& 0x3f).toInt64) ||| ((w0 &&& (255 : Int32)).toInt64)))) (fun h => by rw [Bd.returns] at h; cases h)
  refine ⟨_, _, pre0 _ (go17 _ ?_), hrun, hended, _, _, rfl, ?_, ⟨_, rfl⟩, hW, hsame.mono (by decide) (by decide)⟩
  · skip
    exact retOut X0 hx Bd.returns rfl (Or.inr (Or.inl ⟨rfl, rfl, _, rfl⟩)) (hb hby d2_32) hr
  · show Q2_7 Z a1 k1 w0 w1 w2 w3 w4 w5 w6 h0 n0 _ s₁.heap _
    rw [e0]
    exact ⟨(congrArg (fun z => some (Value.long z)) (show ((((((((((((((0 : Int64) ||| ((w6 &&& (255 : Int32)).toInt64)) <<< ((8 : Int32) &&& 0x3f).toInt64) ||| ((w5 &&& (255 : Int32)).toInt64)) <<< ((8 : Int32) &&& 0x3f).toInt64) ||| ((w4 &&& (255 : Int32)).toInt64)) <<< ((8 : Int32) &&& 0x3f).toInt64) ||| ((w3 &&& (255 : Int32)).toInt64)) <<< ((8 : Int32) &&& 0x3f).toInt64) ||| ((w2 &&& (255 : Int32)).toInt64)) <<< ((8 : Int32) &&& 0x3f).toInt64) ||| ((w1 &&& (255 : Int32)).toInt64)) <<< ((8 : Int32) &&& 0x3f).toInt64) ||| ((w0 &&& (255 : Int32)).toInt64)) = f2_7 w0 w1 w2 w3 w4 w5 w6 from by unfold f2_7; rfl)), N0, rfl⟩

theorem d1_106 : decode method_2_code 106 = .ok (.aload_n 3, 1) := by decide +kernel
theorem d1_107 : decode method_2_code 107 = .ok (.bipush 7, 2) := by decide +kernel
theorem d1_109 : decode method_2_code 109 = .ok (.lload_n 0, 1) := by decide +kernel
theorem d1_110 : decode method_2_code 110 = .ok (.bipush 56, 2) := by decide +kernel
theorem d1_112 : decode method_2_code 112 = .ok (.lushr, 1) := by decide +kernel
theorem d1_113 : decode method_2_code 113 = .ok (.l2i, 1) := by decide +kernel
theorem d1_114 : decode method_2_code 114 = .ok (.i2b, 1) := by decide +kernel
theorem d1_115 : decode method_2_code 115 = .ok (.bastore, 1) := by decide +kernel
theorem pn_1_8 : plainName "com/example/ledgerline/ledgerline/compression/BlockInputStreamLittleEndianPinLaw" = true := by first | (simp [plainName, overriddenIn]; done) | decide +kernel
theorem ef_1_8 (m : MethodId) (x0 : Int64) : entryFrame m #[(.long x0), (.int (8 : Int32))] 4 = mkF m 0 #[vj x0, .second, vi (8 : Int32), .unset] [] := by first | (simp [entryFrame, mkF, argsToLocals, Value.category]; done) | rfl
def Q1_8 (Z : State) (q1 : Int64) (h0 : Heap) (n0 : Nat) (v : Option Value) (h : Heap) (L : List Loc) : Prop := ∃ b : Addr, ∃ kb : ClassId, v = some (.ref b) ∧ Fr n0 L ∧ Keep h0 h [] ∧ h0.size ≤ b ∧ Arv Z h b kb .byte (8 : Int32) [(.int ((q1.toInt32).toInt8.toInt32)), (.int ((((q1.toUInt64 >>> ((8 : Int32) &&& 0x3f).toInt64.toUInt64).toInt64).toInt32).toInt8.toInt32)), (.int ((((q1.toUInt64 >>> ((16 : Int32) &&& 0x3f).toInt64.toUInt64).toInt64).toInt32).toInt8.toInt32)), (.int ((((q1.toUInt64 >>> ((24 : Int32) &&& 0x3f).toInt64.toUInt64).toInt64).toInt32).toInt8.toInt32)), (.int ((((q1.toUInt64 >>> ((32 : Int32) &&& 0x3f).toInt64.toUInt64).toInt64).toInt32).toInt8.toInt32)), (.int ((((q1.toUInt64 >>> ((40 : Int32) &&& 0x3f).toInt64.toUInt64).toInt64).toInt32).toInt8.toInt32)), (.int ((((q1.toUInt64 >>> ((48 : Int32) &&& 0x3f).toInt64.toUInt64).toInt64).toInt32).toInt8.toInt32)), (.int ((((q1.toUInt64 >>> ((56 : Int32) &&& 0x3f).toInt64.toUInt64).toInt64).toInt32).toInt8.toInt32))] (.int (0 : Int32))
set_option maxRecDepth 65536 in
set_option maxHeartbeats 40000000 in
theorem rm1_8 (l : Launch) (Z : State) (a0 : Array Value) (hw : ∀ d ∈ tables_1, d.before a0 Z = true) (ws : List Jvm.Cond) (q1 : Int64) (h0 : Heap) (n0 : Nat) (Z0 : n0 ≤ h0.size) :
    MetFree l y_0 (head1 (Jvm.Cond.code y_0 method_2_code 4 (some (.array .byte)) :: ws) ({ frames := 0, cells := 1, slots := 8, locals := 0 } : Room)) (fun a U => a = #[(.long q1), (.int (8 : Int32))] ∧ Z.Warmed39 U.vm ∧ U.heap = h0) (fun _ _ _ _ _ => True) (fun _ U o U' => ∃ v L, o = .returned v ∧ Q1_8 Z q1 h0 n0 v U'.heap L ∧ FrameEnd U o U' L ({ frames := 0, cells := 1, slots := 8, locals := 0 } : Room).cells ({ frames := 0, cells := 1, slots := 8, locals := 0 } : Room).slots) := by
  refine MetFree.of_bodySF (plainFor_of_name pn_1_8) hisR ?_
  intro p e s m args below meth c s₁ Bd hml0 hP hK
  obtain ⟨rfl, hZ, hh⟩ := hP
  have hx := Bd.exec
  have hby := Bd.bytes
  have hml : c.maxLocals = 4 := hml0
  have hown : s.vm.findClass "com/example/ledgerline/ledgerline/compression/BlockInputStreamLittleEndianPinLaw" = some m.cls := findClass_of_methodNamed Bd.named
  have hnm := (name_of_methodNamed Bd.named Bd.method).1
  have X0 : Stand p l e ({ frames := 0, cells := 1, slots := 8, locals := 0 } : Room) s m #[(.long q1), (.int (8 : Int32))] below meth c s₁ [] 0 0 := Stand.of_body Bd
  have e0 : s₁.heap = h0 := by rw [← hh, Bd.state]; rfl
  have N0 := Fr.nil n0
  have K0 : Keep h0 h0 [] := Keep.refl h0 []
  obtain ⟨F0, hF0⟩ : ∃ F : JFrame, F = entryFrame m #[(.long q1), (.int (8 : Int32))] 4 := ⟨_, rfl⟩
  have pre0 : ∀ t, Steps p.tables e below (s₁.setTop F0) t → Steps p.tables e below (s₁.setTop (entryFrame m #[(.long q1), (.int (8 : Int32))] 4)) t := fun t k => hF0 ▸ k
  have go0 : Go p e below s₁ F0 s₁ (mkF m 0 #[vj q1, .second, vi (8 : Int32), .unset] []) := fun t k => castTop (hF0.trans (ef_1_8 m q1)) k
  have go1 : Go p e below s₁ F0 s₁ (mkF m 1 #[vj q1, .second, vi (8 : Int32), .unset] [(.int (8 : Int32))]) := by
    intro t_ k_
    refine go0 t_ ?_
    refine o_iloadN X0 hx (hb hby d1_0) rfl ?_
    exact k_
  obtain ⟨T2, h2, k2, X2, e2, E2, A2, st2⟩ := newP X0 hx hZ (own_w hw 5 rfl) e0 (g := (mkF m 1 #[vj q1, .second, vi (8 : Int32), .unset] [(.int (8 : Int32))])) rfl (hb hby d1_1) rfl (by decide) (cap := 8) (by decide) (by decide) (by decide) (by decide)
  obtain ⟨b2, gz2⟩ : ∃ z, z = h0.size := ⟨_, rfl⟩
  rw [← gz2] at A2 st2
  have g_b2 : n0 ≤ b2 := Nat.le_trans Z0 (Nat.le_of_eq gz2.symm)
  have sz_b2 : h0.size ≤ b2 := Nat.le_trans K0.1 (Nat.le_of_eq gz2.symm)
  have K3 : Keep h0 h2 [] := K0.ext E2
  have Z3 : n0 ≤ h2.size := Nat.le_trans Z0 E2.1
  have V2 : Arv Z h2 b2 k2 .byte (8 : Int32) (own_zi 8) (.int (0 : Int32)) := (Arv.new A2 (by decide)).pad (pad_rep [] (.int (0 : Int32)) 8)
  have go4 : Go p e below s₁ F0 T2 (mkF m 3 #[vj q1, .second, vi (8 : Int32), .unset] [(.ref b2)]) := fun t_ k_ => go1 t_ (st2 t_ k_)
  have go5 : Go p e below s₁ F0 T2 (mkF m 13 #[vj q1, .second, vi (8 : Int32), vr b2] [(.int ((q1.toInt32).toInt8.toInt32)), (.int (0 : Int32)), (.ref b2)]) := by
    intro t_ k_
    refine go4 t_ ?_
    refine o_astoreN X2 hx (hb hby d1_3) rfl (L' := #[vj q1, .second, vi (8 : Int32), vr b2]) rfl ?_
    refine o_iloadN X2 hx (hb hby d1_4) rfl ?_
    refine o_ifNo X2 hx (hb hby d1_5) ((if0 _ _).trans (tlt (by decide : (0 : Int32) < (8 : Int32))).2.2.2) ?_
    refine o_aloadN X2 hx (hb hby d1_8) rfl rfl ?_
    refine o_iconst X2 hx (hb hby d1_9) (v := 0) rfl ?_
    refine o_lloadN X2 hx (hb hby d1_10) rfl ?_
    refine o_l2i X2 hx (hb hby d1_11) ?_
    refine o_i2b X2 hx (hb hby d1_12) ?_
    exact k_
  obtain ⟨cl6, Ar6, q6, Sz6, Nn6, Hs6, G6⟩ := id V2
  have hin6 : ¬ ((0 : Int32) < 0 ∨ cl6.slots.size ≤ ((0 : Int32)).toNatClampNeg) := inb_of Sz6 ⟨by decide, by decide⟩
  obtain ⟨T6, h6, X6, e6, W6, st6⟩ := stB X2 hx hZ e2 Ar6 (j := (0 : Int32)) hin6 (g := (mkF m 13 #[vj q1, .second, vi (8 : Int32), vr b2] [(.int ((q1.toInt32).toInt8.toInt32)), (.int (0 : Int32)), (.ref b2)])) rfl rfl (hb hby d1_13)
  rw [own_nar_byte] at W6
  have V6 : Arv Z h6 b2 k2 .byte (8 : Int32) [(.int ((q1.toInt32).toInt8.toInt32)), (.int (0 : Int32)), (.int (0 : Int32)), (.int (0 : Int32)), (.int (0 : Int32)), (.int (0 : Int32)), (.int (0 : Int32)), (.int (0 : Int32))] (.int (0 : Int32)) := Arv.set Ar6 q6 Sz6 Nn6 Hs6 G6 (fits_nar_byte _) W6 0 rfl (Nat.le_of_ble_eq_true rfl)
  have K7 : Keep h0 h6 [] := K3.wr W6 (Or.inr sz_b2)
  have Z7 : n0 ≤ h6.size := Nat.le_trans Z3 (Keep.of_wr W6).1
  have N6 := Fr.snoc X6 N0 g_b2
  have go8 : Go p e below s₁ F0 T6 (mkF m 14 #[vj q1, .second, vi (8 : Int32), vr b2] []) := fun t_ k_ => go5 t_ (st6 t_ k_)
  have go9 : Go p e below s₁ F0 T6 (mkF m 27 #[vj q1, .second, vi (8 : Int32), vr b2] [(.int ((((q1.toUInt64 >>> ((8 : Int32) &&& 0x3f).toInt64.toUInt64).toInt64).toInt32).toInt8.toInt32)), (.int (1 : Int32)), (.ref b2)]) := by
    intro t_ k_
    refine go8 t_ ?_
    refine o_iloadN X6 hx (hb hby d1_14) rfl ?_
    refine o_iconst X6 hx (hb hby d1_15) (v := 1) rfl ?_
    refine o_icmpNo X6 hx (hb hby d1_16) (tlt (by decide : (1 : Int32) < (8 : Int32))).2.2.2 ?_
    refine o_aloadN X6 hx (hb hby d1_19) rfl rfl ?_
    refine o_iconst X6 hx (hb hby d1_20) (v := 1) rfl ?_
    refine o_lloadN X6 hx (hb hby d1_21) rfl ?_
    refine o_bipush X6 hx (hb hby d1_22) (v := 8) rfl ?_
    refine o_lushr X6 hx (hb hby d1_24) ?_
    refine o_l2i X6 hx (hb hby d1_25) ?_
    refine o_i2b X6 hx (hb hby d1_26) ?_
    exact k_
  obtain ⟨cl10, Ar10, q10, Sz10, Nn10, Hs10, G10⟩ := id V6
  have hin10 : ¬ ((1 : Int32) < 0 ∨ cl10.slots.size ≤ ((1 : Int32)).toNatClampNeg) := inb_of Sz10 ⟨by decide, by decide⟩
  obtain ⟨T10, h10, X10, e10, W10, st10⟩ := stB X6 hx hZ e6 Ar10 (j := (1 : Int32)) hin10 (g := (mkF m 27 #[vj q1, .second, vi (8 : Int32), vr b2] [(.int ((((q1.toUInt64 >>> ((8 : Int32) &&& 0x3f).toInt64.toUInt64).toInt64).toInt32).toInt8.toInt32)), (.int (1 : Int32)), (.ref b2)])) rfl rfl (hb hby d1_27)
  rw [own_nar_byte] at W10
  have V10 : Arv Z h10 b2 k2 .byte (8 : Int32) [(.int ((q1.toInt32).toInt8.toInt32)), (.int ((((q1.toUInt64 >>> ((8 : Int32) &&& 0x3f).toInt64.toUInt64).toInt64).toInt32).toInt8.toInt32)), (.int (0 : Int32)), (.int (0 : Int32)), (.int (0 : Int32)), (.int (0 : Int32)), (.int (0 : Int32)), (.int (0 : Int32))] (.int (0 : Int32)) := Arv.set Ar10 q10 Sz10 Nn10 Hs10 G10 (fits_nar_byte _) W10 1 rfl (Nat.le_of_ble_eq_true rfl)
  have K11 : Keep h0 h10 [] := K7.wr W10 (Or.inr sz_b2)
  have Z11 : n0 ≤ h10.size := Nat.le_trans Z7 (Keep.of_wr W10).1
  have N10 := Fr.snoc X10 N6 g_b2
  have go12 : Go p e below s₁ F0 T10 (mkF m 28 #[vj q1, .second, vi (8 : Int32), vr b2] []) := fun t_ k_ => go9 t_ (st10 t_ k_)
  have go13 : Go p e below s₁ F0 T10 (mkF m 41 #[vj q1, .second, vi (8 : Int32), vr b2] [(.int ((((q1.toUInt64 >>> ((16 : Int32) &&& 0x3f).toInt64.toUInt64).toInt64).toInt32).toInt8.toInt32)), (.int (2 : Int32)), (.ref b2)]) := by
    intro t_ k_
    refine go12 t_ ?_
    refine o_iloadN X10 hx (hb hby d1_28) rfl ?_
    refine o_iconst X10 hx (hb hby d1_29) (v := 2) rfl ?_
    refine o_icmpNo X10 hx (hb hby d1_30) (tlt (by decide : (2 : Int32) < (8 : Int32))).2.2.2 ?_
    refine o_aloadN X10 hx (hb hby d1_33) rfl rfl ?_
    refine o_iconst X10 hx (hb hby d1_34) (v := 2) rfl ?_
    refine o_lloadN X10 hx (hb hby d1_35) rfl ?_
    refine o_bipush X10 hx (hb hby d1_36) (v := 16) rfl ?_
    refine o_lushr X10 hx (hb hby d1_38) ?_
    refine o_l2i X10 hx (hb hby d1_39) ?_
    refine o_i2b X10 hx (hb hby d1_40) ?_
    exact k_
  obtain ⟨cl14, Ar14, q14, Sz14, Nn14, Hs14, G14⟩ := id V10
  have hin14 : ¬ ((2 : Int32) < 0 ∨ cl14.slots.size ≤ ((2 : Int32)).toNatClampNeg) := inb_of Sz14 ⟨by decide, by decide⟩
  obtain ⟨T14, h14, X14, e14, W14, st14⟩ := stB X10 hx hZ e10 Ar14 (j := (2 : Int32)) hin14 (g := (mkF m 41 #[vj q1, .second, vi (8 : Int32), vr b2] [(.int ((((q1.toUInt64 >>> ((16 : Int32) &&& 0x3f).toInt64.toUInt64).toInt64).toInt32).toInt8.toInt32)), (.int (2 : Int32)), (.ref b2)])) rfl rfl (hb hby d1_41)
  rw [own_nar_byte] at W14
  have V14 : Arv Z h14 b2 k2 .byte (8 : Int32) [(.int ((q1.toInt32).toInt8.toInt32)), (.int ((((q1.toUInt64 >>> ((8 : Int32) &&& 0x3f).toInt64.toUInt64).toInt64).toInt32).toInt8.toInt32)), (.int ((((q1.toUInt64 >>> ((16 : Int32) &&& 0x3f).toInt64.toUInt64).toInt64).toInt32).toInt8.toInt32)), (.int (0 : Int32)), (.int (0 : Int32)), (.int (0 : Int32)), (.int (0 : Int32)), (.int (0 : Int32))] (.int (0 : Int32)) := Arv.set Ar14 q14 Sz14 Nn14 Hs14 G14 (fits_nar_byte _) W14 2 rfl (Nat.le_of_ble_eq_true rfl)
  have K15 : Keep h0 h14 [] := K11.wr W14 (Or.inr sz_b2)
  have Z15 : n0 ≤ h14.size := Nat.le_trans Z11 (Keep.of_wr W14).1
  have N14 := Fr.snoc X14 N10 g_b2
  have go16 : Go p e below s₁ F0 T14 (mkF m 42 #[vj q1, .second, vi (8 : Int32), vr b2] []) := fun t_ k_ => go13 t_ (st14 t_ k_)
  have go17 : Go p e below s₁ F0 T14 (mkF m 55 #[vj q1, .second, vi (8 : Int32), vr b2] [(.int ((((q1.toUInt64 >>> ((24 : Int32) &&& 0x3f).toInt64.toUInt64).toInt64).toInt32).toInt8.toInt32)), (.int (3 : Int32)), (.ref b2)]) := by
    intro t_ k_
    refine go16 t_ ?_
    refine o_iloadN X14 hx (hb hby d1_42) rfl ?_
    refine o_iconst X14 hx (hb hby d1_43) (v := 3) rfl ?_
    refine o_icmpNo X14 hx (hb hby d1_44) (tlt (by decide : (3 : Int32) < (8 : Int32))).2.2.2 ?_
    refine o_aloadN X14 hx (hb hby d1_47) rfl rfl ?_
    refine o_iconst X14 hx (hb hby d1_48) (v := 3) rfl ?_
    refine o_lloadN X14 hx (hb hby d1_49) rfl ?_
    refine o_bipush X14 hx (hb hby d1_50) (v := 24) rfl ?_
    refine o_lushr X14 hx (hb hby d1_52) ?_
    refine o_l2i X14 hx (hb hby d1_53) ?_
    refine o_i2b X14 hx (hb hby d1_54) ?_
    exact k_
  obtain ⟨cl18, Ar18, q18, Sz18, Nn18, Hs18, G18⟩ := id V14
  have hin18 : ¬ ((3 : Int32) < 0 ∨ cl18.slots.size ≤ ((3 : Int32)).toNatClampNeg) := inb_of Sz18 ⟨by decide, by decide⟩
  obtain ⟨T18, h18, X18, e18, W18, st18⟩ := stB X14 hx hZ e14 Ar18 (j := (3 : Int32)) hin18 (g := (mkF m 55 #[vj q1, .second, vi (8 : Int32), vr b2] [(.int ((((q1.toUInt64 >>> ((24 : Int32) &&& 0x3f).toInt64.toUInt64).toInt64).toInt32).toInt8.toInt32)), (.int (3 : Int32)), (.ref b2)])) rfl rfl (hb hby d1_55)
  rw [own_nar_byte] at W18
  have V18 : Arv Z h18 b2 k2 .byte (8 : Int32) [(.int ((q1.toInt32).toInt8.toInt32)), (.int ((((q1.toUInt64 >>> ((8 : Int32) &&& 0x3f).toInt64.toUInt64).toInt64).toInt32).toInt8.toInt32)), (.int ((((q1.toUInt64 >>> ((16 : Int32) &&& 0x3f).toInt64.toUInt64).toInt64).toInt32).toInt8.toInt32)), (.int ((((q1.toUInt64 >>> ((24 : Int32) &&& 0x3f).toInt64.toUInt64).toInt64).toInt32).toInt8.toInt32)), (.int (0 : Int32)), (.int (0 : Int32)), (.int (0 : Int32)), (.int (0 : Int32))] (.int (0 : Int32)) := Arv.set Ar18 q18 Sz18 Nn18 Hs18 G18 (fits_nar_byte _) W18 3 rfl (Nat.le_of_ble_eq_true rfl)
  have K19 : Keep h0 h18 [] := K15.wr W18 (Or.inr sz_b2)
  have Z19 : n0 ≤ h18.size := Nat.le_trans Z15 (Keep.of_wr W18).1
  have N18 := Fr.snoc X18 N14 g_b2
  have go20 : Go p e below s₁ F0 T18 (mkF m 56 #[vj q1, .second, vi (8 : Int32), vr b2] []) := fun t_ k_ => go17 t_ (st18 t_ k_)
  have go21 : Go p e below s₁ F0 T18 (mkF m 69 #[vj q1, .second, vi (8 : Int32), vr b2] [(.int ((((q1.toUInt64 >>> ((32 : Int32) &&& 0x3f).toInt64.toUInt64).toInt64).toInt32).toInt8.toInt32)), (.int (4 : Int32)), (.ref b2)]) := by
    intro t_ k_
    refine go20 t_ ?_
    refine o_iloadN X18 hx (hb hby d1_56) rfl ?_
    refine o_iconst X18 hx (hb hby d1_57) (v := 4) rfl ?_
    refine o_icmpNo X18 hx (hb hby d1_58) (tlt (by decide : (4 : Int32) < (8 : Int32))).2.2.2 ?_
    refine o_aloadN X18 hx (hb hby d1_61) rfl rfl ?_
    refine o_iconst X18 hx (hb hby d1_62) (v := 4) rfl ?_
    refine o_lloadN X18 hx (hb hby d1_63) rfl ?_
    refine o_bipush X18 hx (hb hby d1_64) (v := 32) rfl ?_
    refine o_lushr X18 hx (hb hby d1_66) ?_
    refine o_l2i X18 hx (hb hby d1_67) ?_
    refine o_i2b X18 hx (hb hby d1_68) ?_
    exact k_
  obtain ⟨cl22, Ar22, q22, Sz22, Nn22, Hs22, G22⟩ := id V18
  have hin22 : ¬ ((4 : Int32) < 0 ∨ cl22.slots.size ≤ ((4 : Int32)).toNatClampNeg) := inb_of Sz22 ⟨by decide, by decide⟩
  obtain ⟨T22, h22, X22, e22, W22, st22⟩ := stB X18 hx hZ e18 Ar22 (j := (4 : Int32)) hin22 (g := (mkF m 69 #[vj q1, .second, vi (8 : Int32), vr b2] [(.int ((((q1.toUInt64 >>> ((32 : Int32) &&& 0x3f).toInt64.toUInt64).toInt64).toInt32).toInt8.toInt32)), (.int (4 : Int32)), (.ref b2)])) rfl rfl (hb hby d1_69)
  rw [own_nar_byte] at W22
  have V22 : Arv Z h22 b2 k2 .byte (8 : Int32) [(.int ((q1.toInt32).toInt8.toInt32)), (.int ((((q1.toUInt64 >>> ((8 : Int32) &&& 0x3f).toInt64.toUInt64).toInt64).toInt32).toInt8.toInt32)), (.int ((((q1.toUInt64 >>> ((16 : Int32) &&& 0x3f).toInt64.toUInt64).toInt64).toInt32).toInt8.toInt32)), (.int ((((q1.toUInt64 >>> ((24 : Int32) &&& 0x3f).toInt64.toUInt64).toInt64).toInt32).toInt8.toInt32)), (.int ((((q1.toUInt64 >>> ((32 : Int32) &&& 0x3f).toInt64.toUInt64).toInt64).toInt32).toInt8.toInt32)), (.int (0 : Int32)), (.int (0 : Int32)), (.int (0 : Int32))] (.int (0 : Int32)) := Arv.set Ar22 q22 Sz22 Nn22 Hs22 G22 (fits_nar_byte _) W22 4 rfl (Nat.le_of_ble_eq_true rfl)
  have K23 : Keep h0 h22 [] := K19.wr W22 (Or.inr sz_b2)
  have Z23 : n0 ≤ h22.size := Nat.le_trans Z19 (Keep.of_wr W22).1
  have N22 := Fr.snoc X22 N18 g_b2
  have go24 : Go p e below s₁ F0 T22 (mkF m 70 #[vj q1, .second, vi (8 : Int32), vr b2] []) := fun t_ k_ => go21 t_ (st22 t_ k_)
  have go25 : Go p e below s₁ F0 T22 (mkF m 83 #[vj q1, .second, vi (8 : Int32), vr b2] [(.int ((((q1.toUInt64 >>> ((40 : Int32) &&& 0x3f).toInt64.toUInt64).toInt64).toInt32).toInt8.toInt32)), (.int (5 : Int32)), (.ref b2)]) := by
    intro t_ k_
    refine go24 t_ ?_
    refine o_iloadN X22 hx (hb hby d1_70) rfl ?_
    refine o_iconst X22 hx (hb hby d1_71) (v := 5) rfl ?_
    refine o_icmpNo X22 hx (hb hby d1_72) (tlt (by decide : (5 : Int32) < (8 : Int32))).2.2.2 ?_
    refine o_aloadN X22 hx (hb hby d1_75) rfl rfl ?_
    refine o_iconst X22 hx (hb hby d1_76) (v := 5) rfl ?_
    refine o_lloadN X22 hx (hb hby d1_77) rfl ?_
    refine o_bipush X22 hx (hb hby d1_78) (v := 40) rfl ?_
    refine o_lushr X22 hx (hb hby d1_80) ?_
    refine o_l2i X22 hx (hb hby d1_81) ?_
    refine o_i2b X22 hx (hb hby d1_82) ?_
    exact k_
  obtain ⟨cl26, Ar26, q26, Sz26, Nn26, Hs26, G26⟩ := id V22
  have hin26 : ¬ ((5 : Int32) < 0 ∨ cl26.slots.size ≤ ((5 : Int32)).toNatClampNeg) := inb_of Sz26 ⟨by decide, by decide⟩
  obtain ⟨T26, h26, X26, e26, W26, st26⟩ := stB X22 hx hZ e22 Ar26 (j := (5 : Int32)) hin26 (g := (mkF m 83 #[vj q1, .second, vi (8 : Int32), vr b2] [(.int ((((q1.toUInt64 >>> ((40 : Int32) &&& 0x3f).toInt64.toUInt64).toInt64).toInt32).toInt8.toInt32)), (.int (5 : Int32)), (.ref b2)])) rfl rfl (hb hby d1_83)
  rw [own_nar_byte] at W26
  have V26 : Arv Z h26 b2 k2 .byte (8 : Int32) [(.int ((q1.toInt32).toInt8.toInt32)), (.int ((((q1.toUInt64 >>> ((8 : Int32) &&& 0x3f).toInt64.toUInt64).toInt64).toInt32).toInt8.toInt32)), (.int ((((q1.toUInt64 >>> ((16 : Int32) &&& 0x3f).toInt64.toUInt64).toInt64).toInt32).toInt8.toInt32)), (.int ((((q1.toUInt64 >>> ((24 : Int32) &&& 0x3f).toInt64.toUInt64).toInt64).toInt32).toInt8.toInt32)), (.int ((((q1.toUInt64 >>> ((32 : Int32) &&& 0x3f).toInt64.toUInt64).toInt64).toInt32).toInt8.toInt32)), (.int ((((q1.toUInt64 >>> ((40 : Int32) &&& 0x3f).toInt64.toUInt64).toInt64).toInt32).toInt8.toInt32)), (.int (0 : Int32)), (.int (0 : Int32))] (.int (0 : Int32)) := Arv.set Ar26 q26 Sz26 Nn26 Hs26 G26 (fits_nar_byte _) W26 5 rfl (Nat.le_of_ble_eq_true rfl)
  have K27 : Keep h0 h26 [] := K23.wr W26 (Or.inr sz_b2)
  have Z27 : n0 ≤ h26.size := Nat.le_trans Z23 (Keep.of_wr W26).1
  have N26 := Fr.snoc X26 N22 g_b2
  have go28 : Go p e below s₁ F0 T26 (mkF m 84 #[vj q1, .second, vi (8 : Int32), vr b2] []) := fun t_ k_ => go25 t_ (st26 t_ k_)
  have go29 : Go p e below s₁ F0 T26 (mkF m 99 #[vj q1, .second, vi (8 : Int32), vr b2] [(.int ((((q1.toUInt64 >>> ((48 : Int32) &&& 0x3f).toInt64.toUInt64).toInt64).toInt32).toInt8.toInt32)), (.int (6 : Int32)), (.ref b2)]) := by
    intro t_ k_
    refine go28 t_ ?_
    refine o_iloadN X26 hx (hb hby d1_84) rfl ?_
    refine o_bipush X26 hx (hb hby d1_85) (v := 6) rfl ?_
    refine o_icmpNo X26 hx (hb hby d1_87) (tlt (by decide : (6 : Int32) < (8 : Int32))).2.2.2 ?_
    refine o_aloadN X26 hx (hb hby d1_90) rfl rfl ?_
    refine o_bipush X26 hx (hb hby d1_91) (v := 6) rfl ?_
    refine o_lloadN X26 hx (hb hby d1_93) rfl ?_
    refine o_bipush X26 hx (hb hby d1_94) (v := 48) rfl ?_
    refine o_lushr X26 hx (hb hby d1_96) ?_
    refine o_l2i X26 hx (hb hby d1_97) ?_
    refine o_i2b X26 hx (hb hby d1_98) ?_
    exact k_
  obtain ⟨cl30, Ar30, q30, Sz30, Nn30, Hs30, G30⟩ := id V26
  have hin30 : ¬ ((6 : Int32) < 0 ∨ cl30.slots.size ≤ ((6 : Int32)).toNatClampNeg) := inb_of Sz30 ⟨by decide, by decide⟩
  obtain ⟨T30, h30, X30, e30, W30, st30⟩ := stB X26 hx hZ e26 Ar30 (j := (6 : Int32)) hin30 (g := (mkF m 99 #[vj q1, .second, vi (8 : Int32), vr b2] [(.int ((((q1.toUInt64 >>> ((48 : Int32) &&& 0x3f).toInt64.toUInt64).toInt64).toInt32).toInt8.toInt32)), (.int (6 : Int32)), (.ref b2)])) rfl rfl (hb hby d1_99)
  rw [own_nar_byte] at W30
  have V30 : Arv Z h30 b2 k2 .byte (8 : Int32) [(.int ((q1.toInt32).toInt8.toInt32)), (.int ((((q1.toUInt64 >>> ((8 : Int32) &&& 0x3f).toInt64.toUInt64).toInt64).toInt32).toInt8.toInt32)), (.int ((((q1.toUInt64 >>> ((16 : Int32) &&& 0x3f).toInt64.toUInt64).toInt64).toInt32).toInt8.toInt32)), (.int ((((q1.toUInt64 >>> ((24 : Int32) &&& 0x3f).toInt64.toUInt64).toInt64).toInt32).toInt8.toInt32)), (.int ((((q1.toUInt64 >>> ((32 : Int32) &&& 0x3f).toInt64.toUInt64).toInt64).toInt32).toInt8.toInt32)), (.int ((((q1.toUInt64 >>> ((40 : Int32) &&& 0x3f).toInt64.toUInt64).toInt64).toInt32).toInt8.toInt32)), (.int ((((q1.toUInt64 >>> ((48 : Int32) &&& 0x3f).toInt64.toUInt64).toInt64).toInt32).toInt8.toInt32)), (.int (0 : Int32))] (.int (0 : Int32)) := Arv.set Ar30 q30 Sz30 Nn30 Hs30 G30 (fits_nar_byte _) W30 6 rfl (Nat.le_of_ble_eq_true rfl)
  have K31 : Keep h0 h30 [] := K27.wr W30 (Or.inr sz_b2)
  have Z31 : n0 ≤ h30.size := Nat.le_trans Z27 (Keep.of_wr W30).1
  have N30 := Fr.snoc X30 N26 g_b2
  have go32 : Go p e below s₁ F0 T30 (mkF m 100 #[vj q1, .second, vi (8 : Int32), vr b2] []) := fun t_ k_ => go29 t_ (st30 t_ k_)
  have go33 : Go p e below s₁ F0 T30 (mkF m 115 #[vj q1, .second, vi (8 : Int32), vr b2] [(.int ((((q1.toUInt64 >>> ((56 : Int32) &&& 0x3f).toInt64.toUInt64).toInt64).toInt32).toInt8.toInt32)), (.int (7 : Int32)), (.ref b2)]) := by
    intro t_ k_
    refine go32 t_ ?_
    refine o_iloadN X30 hx (hb hby d1_100) rfl ?_
    refine o_bipush X30 hx (hb hby d1_101) (v := 7) rfl ?_
    refine o_icmpNo X30 hx (hb hby d1_103) (tlt (by decide : (7 : Int32) < (8 : Int32))).2.2.2 ?_
    refine o_aloadN X30 hx (hb hby d1_106) rfl rfl ?_
    refine o_bipush X30 hx (hb hby d1_107) (v := 7) rfl ?_
    refine o_lloadN X30 hx (hb hby d1_109) rfl ?_
    refine o_bipush X30 hx (hb hby d1_110) (v := 56) rfl ?_
    refine o_lushr X30 hx (hb hby d1_112) ?_
    refine o_l2i X30 hx (hb hby d1_113) ?_
    refine o_i2b X30 hx (hb hby d1_114) ?_
    exact k_
  obtain ⟨cl34, Ar34, q34, Sz34, Nn34, Hs34, G34⟩ := id V30
  have hin34 : ¬ ((7 : Int32) < 0 ∨ cl34.slots.size ≤ ((7 : Int32)).toNatClampNeg) := inb_of Sz34 ⟨by decide, by decide⟩
  obtain ⟨T34, h34, X34, e34, W34, st34⟩ := stB X30 hx hZ e30 Ar34 (j := (7 : Int32)) hin34 (g := (mkF m 115 #[vj q1, .second, vi (8 : Int32), vr b2] [(.int ((((q1.toUInt64 >>> ((56 : Int32) &&& 0x3f).toInt64.toUInt64).toInt64).toInt32).toInt8.toInt32)), (.int (7 : Int32)), (.ref b2)])) rfl rfl (hb hby d1_115)
  rw [own_nar_byte] at W34
  have V34 : Arv Z h34 b2 k2 .byte (8 : Int32) [(.int ((q1.toInt32).toInt8.toInt32)), (.int ((((q1.toUInt64 >>> ((8 : Int32) &&& 0x3f).toInt64.toUInt64).toInt64).toInt32).toInt8.toInt32)), (.int ((((q1.toUInt64 >>> ((16 : Int32) &&& 0x3f).toInt64.toUInt64).toInt64).toInt32).toInt8.toInt32)), (.int ((((q1.toUInt64 >>> ((24 : Int32) &&& 0x3f).toInt64.toUInt64).toInt64).toInt32).toInt8.toInt32)), (.int ((((q1.toUInt64 >>> ((32 : Int32) &&& 0x3f).toInt64.toUInt64).toInt64).toInt32).toInt8.toInt32)), (.int ((((q1.toUInt64 >>> ((40 : Int32) &&& 0x3f).toInt64.toUInt64).toInt64).toInt32).toInt8.toInt32)), (.int ((((q1.toUInt64 >>> ((48 : Int32) &&& 0x3f).toInt64.toUInt64).toInt64).toInt32).toInt8.toInt32)), (.int ((((q1.toUInt64 >>> ((56 : Int32) &&& 0x3f).toInt64.toUInt64).toInt64).toInt32).toInt8.toInt32))] (.int (0 : Int32)) := Arv.set Ar34 q34 Sz34 Nn34 Hs34 G34 (fits_nar_byte _) W34 7 rfl (Nat.le_of_ble_eq_true rfl)
  have K35 : Keep h0 h34 [] := K31.wr W34 (Or.inr sz_b2)
  have Z35 : n0 ≤ h34.size := Nat.le_trans Z31 (Keep.of_wr W34).1
  have N34 := Fr.snoc X34 N30 g_b2
  have go36 : Go p e below s₁ F0 T34 (mkF m 116 #[vj q1, .second, vi (8 : Int32), vr b2] []) := fun t_ k_ => go33 t_ (st34 t_ k_)
  have go37 : Go p e below s₁ F0 T34 (mkF m 117 #[vj q1, .second, vi (8 : Int32), vr b2] [(.ref b2)]) := by
    intro t_ k_
    refine go36 t_ ?_
    refine o_aloadN X34 hx (hb hby d1_116) rfl rfl ?_
    exact k_
  obtain ⟨fs, hr, hrun, hended, hW, hsame⟩ := X34.leave (v := some (.ref b2)) (fun h => by rw [Bd.returns] at h; cases h)
  refine ⟨_, _, pre0 _ (go37 _ ?_), hrun, hended, _, _, rfl, ?_, ⟨_, rfl⟩, hW, hsame.mono (by decide) (by decide)⟩
  · skip
    exact retOut X34 hx Bd.returns rfl (Or.inr (Or.inr (Or.inr (Or.inr ⟨rfl, rfl, rfl⟩)))) (hb hby d1_117) hr
  · show Q1_8 Z q1 h0 n0 _ T34.heap _
    rw [e34]
    exact ⟨b2, k2, rfl, N34, K35, sz_b2, V34⟩

theorem pn_2_8 : plainName "com/example/ledgerline/ledgerline/compression/BlockInputStream" = true := by first | (simp [plainName, overriddenIn]; done) | decide +kernel
theorem ef_2_8 (m : MethodId) (x0 : Addr) : entryFrame m #[(.ref x0)] 4 = mkF m 0 #[vr x0, .unset, .unset, .unset] [] := by first | (simp [entryFrame, mkF, argsToLocals, Value.category]; done) | rfl
def f2_8 (w0 : Int32) (w1 : Int32) (w2 : Int32) (w3 : Int32) (w4 : Int32) (w5 : Int32) (w6 : Int32) (w7 : Int32) : Int64 := ((((((((((((((((0 : Int64) ||| ((w7 &&& (255 : Int32)).toInt64)) <<< ((8 : Int32) &&& 0x3f).toInt64) ||| ((w6 &&& (255 : Int32)).toInt64)) <<< ((8 : Int32) &&& 0x3f).toInt64) ||| ((w5 &&& (255 : Int32)).toInt64)) <<< ((8 : Int32) &&& 0x3f).toInt64) ||| ((w4 &&& (255 : Int32)).toInt64)) <<< ((8 : Int32) &&& 0x3f).toInt64) ||| ((w3 &&& (255 : Int32)).toInt64)) <<< ((8 : Int32) &&& 0x3f).toInt64) ||| ((w2 &&& (255 : Int32)).toInt64)) <<< ((8 : Int32) &&& 0x3f).toInt64) ||| ((w1 &&& (255 : Int32)).toInt64)) <<< ((8 : Int32) &&& 0x3f).toInt64) ||| ((w0 &&& (255 : Int32)).toInt64))
def Q2_8 (Z : State) (a1 : Addr) (k1 : ClassId) (w0 : Int32) (w1 : Int32) (w2 : Int32) (w3 : Int32) (w4 : Int32) (w5 : Int32) (w6 : Int32) (w7 : Int32) (h0 : Heap) (n0 : Nat) (v : Option Value) (h : Heap) (L : List Loc) : Prop := v = some (.long (f2_8 w0 w1 w2 w3 w4 w5 w6 w7)) ∧ Fr n0 L ∧ h = h0
set_option maxRecDepth 65536 in
set_option maxHeartbeats 40000000 in
theorem rm2_8 (l : Launch) (Z : State) (a0 : Array Value) (hw : ∀ d ∈ tables_1, d.before a0 Z = true) (ws : List Jvm.Cond) (a1 : Addr) (k1 : ClassId) (w0 : Int32) (w1 : Int32) (w2 : Int32) (w3 : Int32) (w4 : Int32) (w5 : Int32) (w6 : Int32) (w7 : Int32) (h0 : Heap) (n0 : Nat) (Z0 : n0 ≤ h0.size) (V0 : Arv Z h0 a1 k1 .byte (8 : Int32) [(.int w0), (.int w1), (.int w2), (.int w3), (.int w4), (.int w5), (.int w6), (.int w7)] (.int (0 : Int32))) :
    MetFree l y_1 (head1 (Jvm.Cond.code y_1 prog_3_method_9_code 4 (some .long) :: ws) ({ frames := 0, cells := 0, slots := 0, locals := 0 } : Room)) (fun a U => a = #[(.ref a1)] ∧ Z.Warmed39 U.vm ∧ U.heap = h0) (fun _ _ _ _ _ => True) (fun _ U o U' => ∃ v L, o = .returned v ∧ Q2_8 Z a1 k1 w0 w1 w2 w3 w4 w5 w6 w7 h0 n0 v U'.heap L ∧ FrameEnd U o U' L ({ frames := 0, cells := 0, slots := 0, locals := 0 } : Room).cells ({ frames := 0, cells := 0, slots := 0, locals := 0 } : Room).slots) := by
  refine MetFree.of_bodySF (plainFor_of_name pn_2_8) hisR ?_
  intro p e s m args below meth c s₁ Bd hml0 hP hK
  obtain ⟨rfl, hZ, hh⟩ := hP
  have hx := Bd.exec
  have hby := Bd.bytes
  have hml : c.maxLocals = 4 := hml0
  have hown : s.vm.findClass "com/example/ledgerline/ledgerline/compression/BlockInputStream" = some m.cls := findClass_of_methodNamed Bd.named
  have hnm := (name_of_methodNamed Bd.named Bd.method).1
  have X0 : Stand p l e ({ frames := 0, cells := 0, slots := 0, locals := 0 } : Room) s m #[(.ref a1)] below meth c s₁ [] 0 0 := Stand.of_body Bd
  have e0 : s₁.heap = h0 := by rw [← hh, Bd.state]; rfl
  have N0 := Fr.nil n0
  obtain ⟨F0, hF0⟩ : ∃ F : JFrame, F = entryFrame m #[(.ref a1)] 4 := ⟨_, rfl⟩
  have pre0 : ∀ t, Steps p.tables e below (s₁.setTop F0) t → Steps p.tables e below (s₁.setTop (entryFrame m #[(.ref a1)] 4)) t := fun t k => hF0 ▸ k
  have go0 : Go p e below s₁ F0 s₁ (mkF m 0 #[vr a1, .unset, .unset, .unset] []) := fun t k => castTop (hF0.trans (ef_2_8 m a1)) k
  have go1 : Go p e below s₁ F0 s₁ (mkF m 3 #[vr a1, vj (0 : Int64), .second, .unset] [(.ref a1)]) := by
    intro t_ k_
    refine go0 t_ ?_
    refine o_lconst X0 hx (hb hby d2_0) (v := 0) rfl ?_
    refine o_lstoreN X0 hx (hb hby d2_1) (L' := #[vr a1, vj (0 : Int64), .second, .unset]) rfl ?_
    refine o_aloadN X0 hx (hb hby d2_2) rfl rfl ?_
    exact k_
  obtain ⟨cl2, Ar2, -, Sz2, Nn2, -, -⟩ := id V0
  have go3 : Go p e below s₁ F0 s₁ (mkF m 17 #[vr a1, vj (0 : Int64), .second, vi (7 : Int32)] [(.int (7 : Int32)), (.ref a1), (.long (0 : Int64))]) := by
    intro t_ k_
    refine go1 t_ ?_
    refine o_len X0 hx hZ e0 Ar2 Sz2 Nn2 (hb hby d2_3) ?_
    refine o_iconst X0 hx (hb hby d2_4) (v := 1) rfl ?_
    refine o_isubE X0 hx (hb hby d2_5) (v := 7) rfl ?_
    refine o_istoreN X0 hx (hb hby d2_6) (L' := #[vr a1, vj (0 : Int64), .second, vi (7 : Int32)]) rfl ?_
    refine o_iloadN X0 hx (hb hby d2_7) rfl ?_
    refine o_ifNo X0 hx (hb hby d2_8) ((if0 _ _).trans (flt (by decide : ¬ ((7 : Int32) < (0 : Int32)))).1) ?_
    refine o_lloadN X0 hx (hb hby d2_11) rfl ?_
    refine o_bipush X0 hx (hb hby d2_12) (v := 8) rfl ?_
    refine o_lshlE X0 hx (hb hby d2_14) (v := 0) rfl ?_
    refine o_aloadN X0 hx (hb hby d2_15) rfl rfl ?_
    refine o_iloadN X0 hx (hb hby d2_16) rfl ?_
    exact k_
  obtain ⟨cl4, Ar4, -, Sz4, Nn4, Hs4, -⟩ := id V0
  have hin4 : ¬ ((7 : Int32) < 0 ∨ cl4.slots.size ≤ ((7 : Int32)).toNatClampNeg) := inb_of Sz4 ⟨by decide, by decide⟩
  have hat4 : cl4.slots[((7 : Int32)).toNatClampNeg]? = some (.int w7) := Hs4.at hin4 rfl
  have go5 : Go p e below s₁ F0 s₁ (mkF m 17 #[vr a1, vj ((0 : Int64) ||| ((w7 &&& (255 : Int32)).toInt64)), .second, vi (6 : Int32)] [(.int (6 : Int32)), (.ref a1), (.long (((0 : Int64) ||| ((w7 &&& (255 : Int32)).toInt64)) <<< ((8 : Int32) &&& 0x3f).toInt64))]) := by
    intro t_ k_
    refine go3 t_ ?_
    refine o_baload X0 hx hZ e0 Ar4 hin4 hat4 (hb hby d2_17) ?_
    refine o_sipush X0 hx (hb hby d2_18) (v := 255) rfl ?_
    refine o_iand X0 hx (hb hby d2_21) ?_
    refine o_i2l X0 hx (hb hby d2_22) ?_
    refine o_lor X0 hx (hb hby d2_23) ?_
    refine o_lstoreN X0 hx (hb hby d2_24) (L' := #[vr a1, vj ((0 : Int64) ||| ((w7 &&& (255 : Int32)).toInt64)), .second, vi (7 : Int32)]) rfl ?_
    refine o_iinc X0 hx (hb hby d2_25) rfl (L' := #[vr a1, vj ((0 : Int64) ||| ((w7 &&& (255 : Int32)).toInt64)), .second, vi (6 : Int32)]) rfl ?_
    refine o_goto X0 hx (hb hby d2_28) (pc' := 7) rfl (by decide) ?_
    refine o_iloadN X0 hx (hb hby d2_7) rfl ?_
    refine o_ifNo X0 hx (hb hby d2_8) ((if0 _ _).trans (flt (by decide : ¬ ((6 : Int32) < (0 : Int32)))).1) ?_
    refine o_lloadN X0 hx (hb hby d2_11) rfl ?_
    refine o_bipush X0 hx (hb hby d2_12) (v := 8) rfl ?_
    refine o_lshl X0 hx (hb hby d2_14) ?_
    refine o_aloadN X0 hx (hb hby d2_15) rfl rfl ?_
    refine o_iloadN X0 hx (hb hby d2_16) rfl ?_
    exact k_
  obtain ⟨cl6, Ar6, -, Sz6, Nn6, Hs6, -⟩ := id V0
  have hin6 : ¬ ((6 : Int32) < 0 ∨ cl6.slots.size ≤ ((6 : Int32)).toNatClampNeg) := inb_of Sz6 ⟨by decide, by decide⟩
  have hat6 : cl6.slots[((6 : Int32)).toNatClampNeg]? = some (.int w6) := Hs6.at hin6 rfl
  have go7 : Go p e below s₁ F0 s₁ (mkF m 17 #[vr a1, vj ((((0 : Int64) ||| ((w7 &&& (255 : Int32)).toInt64)) <<< ((8 : Int32) &&& 0x3f).toInt64) ||| ((w6 &&& (255 : Int32)).toInt64)), .second, vi (5 : Int32)] [(.int (5 : Int32)), (.ref a1), (.long (((((0 : Int64) ||| ((w7 &&& (255 : Int32)).toInt64)) <<< ((8 : Int32) &&& 0x3f).toInt64) ||| ((w6 &&& (255 : Int32)).toInt64)) <<< ((8 : Int32) &&& 0x3f).toInt64))]) := by
    intro t_ k_
    refine go5 t_ ?_
    refine o_baload X0 hx hZ e0 Ar6 hin6 hat6 (hb hby d2_17) ?_
    refine o_sipush X0 hx (hb hby d2_18) (v := 255) rfl ?_
    refine o_iand X0 hx (hb hby d2_21) ?_
    refine o_i2l X0 hx (hb hby d2_22) ?_
    refine o_lor X0 hx (hb hby d2_23) ?_
    refine o_lstoreN X0 hx (hb hby d2_24) (L' := #[vr a1, vj ((((0 : Int64) ||| ((w7 &&& (255 : Int32)).toInt64)) <<< ((8 : Int32) &&& 0x3f).toInt64) ||| ((w6 &&& (255 : Int32)).toInt64)), .second, vi (6 : Int32)]) rfl ?_
    refine o_iinc X0 hx (hb hby d2_25) rfl (L' := #[vr a1, vj ((((0 : Int64) ||| ((w7 &&& (255 : Int32)).toInt64)) <<< ((8 : Int32) &&& 0x3f).toInt64) ||| ((w6 &&& (255 : Int32)).toInt64)), .second, vi (5 : Int32)]) rfl ?_
    refine o_goto X0 hx (hb hby d2_28) (pc' := 7) rfl (by decide) ?_
    refine o_iloadN X0 hx (hb hby d2_7) rfl ?_
    refine o_ifNo X0 hx (hb hby d2_8) ((if0 _ _).trans (flt (by decide : ¬ ((5 : Int32) < (0 : Int32)))).1) ?_
    refine o_lloadN X0 hx (hb hby d2_11) rfl ?_
    refine o_bipush X0 hx (hb hby d2_12) (v := 8) rfl ?_
    refine o_lshl X0 hx (hb hby d2_14) ?_
    refine o_aloadN X0 hx (hb hby d2_15) rfl rfl ?_
    refine o_iloadN X0 hx (hb hby d2_16) rfl ?_
    exact k_
  obtain ⟨cl8, Ar8, -, Sz8, Nn8, Hs8, -⟩ := id V0
  have hin8 : ¬ ((5 : Int32) < 0 ∨ cl8.slots.size ≤ ((5 : Int32)).toNatClampNeg) := inb_of Sz8 ⟨by decide, by decide⟩
  have hat8 : cl8.slots[((5 : Int32)).toNatClampNeg]? = some (.int w5) := Hs8.at hin8 rfl
  have go9 : Go p e below s₁ F0 s₁ (mkF m 17 #[vr a1, vj ((((((0 : Int64) ||| ((w7 &&& (255 : Int32)).toInt64)) <<< ((8 : Int32) &&& 0x3f).toInt64) ||| ((w6 &&& (255 : Int32)).toInt64)) <<< ((8 : Int32) &&& 0x3f).toInt64) ||| ((w5 &&& (255 : Int32)).toInt64)), .second, vi (4 : Int32)] [(.int (4 : Int32)), (.ref a1), (.long (((((((0 : Int64) ||| ((w7 &&& (255 : Int32)).toInt64)) <<< ((8 : Int32) &&& 0x3f).toInt64) ||| ((w6 &&& (255 : Int32)).toInt64)) <<< ((8 : Int32) &&& 0x3f).toInt64) ||| ((w5 &&& (255 : Int32)).toInt64)) <<< ((8 : Int32) &&& 0x3f).toInt64))]) := by
    intro t_ k_
    refine go7 t_ ?_
    refine o_baload X0 hx hZ e0 Ar8 hin8 hat8 (hb hby d2_17) ?_
    refine o_sipush X0 hx (hb hby d2_18) (v := 255) rfl ?_
    refine o_iand X0 hx (hb hby d2_21) ?_
    refine o_i2l X0 hx (hb hby d2_22) ?_
    refine o_lor X0 hx (hb hby d2_23) ?_
    refine o_lstoreN X0 hx (hb hby d2_24) (L' := #[vr a1, vj ((((((0 : Int64) ||| ((w7 &&& (255 : Int32)).toInt64)) <<< ((8 : Int32) &&& 0x3f).toInt64) ||| ((w6 &&& (255 : Int32)).toInt64)) <<< ((8 : Int32) &&& 0x3f).toInt64) ||| ((w5 &&& (255 : Int32)).toInt64)), .second, vi (5 : Int32)]) rfl ?_
    refine o_iinc X0 hx (hb hby d2_25) rfl (L' := #[vr a1, vj ((((((0 : Int64) ||| ((w7 &&& (255 : Int32)).toInt64)) <<< ((8 : Int32) &&& 0x3f).toInt64) ||| ((w6 &&& (255 : Int32)).toInt64)) <<< ((8 : Int32) &&& 0x3f).toInt64) ||| ((w5 &&& (255 : Int32)).toInt64)), .second, vi (4 : Int32)]) rfl ?_
    refine o_goto X0 hx (hb hby d2_28) (pc' := 7) rfl (by decide) ?_
    refine o_iloadN X0 hx (hb hby d2_7) rfl ?_
    refine o_ifNo X0 hx (hb hby d2_8) ((if0 _ _).trans (flt (by decide : ¬ ((4 : Int32) < (0 : Int32)))).1) ?_
    refine o_lloadN X0 hx (hb hby d2_11) rfl ?_
    refine o_bipush X0 hx (hb hby d2_12) (v := 8) rfl ?_
    refine o_lshl X0 hx (hb hby d2_14) ?_
    refine o_aloadN X0 hx (hb hby d2_15) rfl rfl ?_
    refine o_iloadN X0 hx (hb hby d2_16) rfl ?_
    exact k_
  obtain ⟨cl10, Ar10, -, Sz10, Nn10, Hs10, -⟩ := id V0
  have hin10 : ¬ ((4 : Int32) < 0 ∨ cl10.slots.size ≤ ((4 : Int32)).toNatClampNeg) := inb_of Sz10 ⟨by decide, by decide⟩
  have hat10 : cl10.slots[((4 : Int32)).toNatClampNeg]? = some (.int w4) := Hs10.at hin10 rfl
  have go11 : Go p e below s₁ F0 s₁ (mkF m 17 #[vr a1, vj ((((((((0 : Int64) ||| ((w7 &&& (255 : Int32)).toInt64)) <<< ((8 : Int32) &&& 0x3f).toInt64) ||| ((w6 &&& (255 : Int32)).toInt64)) <<< ((8 : Int32) &&& 0x3f).toInt64) ||| ((w5 &&& (255 : Int32)).toInt64)) <<< ((8 : Int32) &&& 0x3f).toInt64) ||| ((w4 &&& (255 : Int32)).toInt64)), .second, vi (3 : Int32)] [(.int (3 : Int32)), (.ref a1), (.long (((((((((0 : Int64) ||| ((w7 &&& (255 : Int32)).toInt64)) <<< ((8 : Int32) &&& 0x3f).toInt64) ||| ((w6 &&& (255 : Int32)).toInt64)) <<< ((8 : Int32) &&& 0x3f).toInt64) ||| ((w5 &&& (255 : Int32)).toInt64)) <<< ((8 : Int32) &&& 0x3f).toInt64) ||| ((w4 &&& (255 : Int32)).toInt64)) <<< ((8 : Int32) &&& 0x3f).toInt64))]) := by
    intro t_ k_
    refine go9 t_ ?_
    refine o_baload X0 hx hZ e0 Ar10 hin10 hat10 (hb hby d2_17) ?_
    refine o_sipush X0 hx (hb hby d2_18) (v := 255) rfl ?_
    refine o_iand X0 hx (hb hby d2_21) ?_
    refine o_i2l X0 hx (hb hby d2_22) ?_
    refine o_lor X0 hx (hb hby d2_23) ?_
    refine o_lstoreN X0 hx (hb hby d2_24) (L' := #[vr a1, vj ((((((((0 : Int64) ||| ((w7 &&& (255 : Int32)).toInt64)) <<< ((8 : Int32) &&& 0x3f).toInt64) ||| ((w6 &&& (255 : Int32)).toInt64)) <<< ((8 : Int32) &&& 0x3f).toInt64) ||| ((w5 &&& (255 : Int32)).toInt64)) <<< ((8 : Int32) &&& 0x3f).toInt64) ||| ((w4 &&& (255 : Int32)).toInt64)), .second, vi (4 : Int32)]) rfl ?_
    refine o_iinc X0 hx (hb hby d2_25) rfl (L' := #[vr a1, vj ((((((((0 : Int64) ||| ((w7 &&& (255 : Int32)).toInt64)) <<< ((8 : Int32) &&& 0x3f).toInt64) ||| ((w6 &&& (255 : Int32)).toInt64)) <<< ((8 : Int32) &&& 0x3f).toInt64) ||| ((w5 &&& (255 : Int32)).toInt64)) <<< ((8 : Int32) &&& 0x3f).toInt64) ||| ((w4 &&& (255 : Int32)).toInt64)), .second, vi (3 : Int32)]) rfl ?_
    refine o_goto X0 hx (hb hby d2_28) (pc' := 7) rfl (by decide) ?_
    refine o_iloadN X0 hx (hb hby d2_7) rfl ?_
    refine o_ifNo X0 hx (hb hby d2_8) ((if0 _ _).trans (flt (by decide : ¬ ((3 : Int32) < (0 : Int32)))).1) ?_
    refine o_lloadN X0 hx (hb hby d2_11) rfl ?_
    refine o_bipush X0 hx (hb hby d2_12) (v := 8) rfl ?_
    refine o_lshl X0 hx (hb hby d2_14) ?_
    refine o_aloadN X0 hx (hb hby d2_15) rfl rfl ?_
    refine o_iloadN X0 hx (hb hby d2_16) rfl ?_
    exact k_
  obtain ⟨cl12, Ar12, -, Sz12, Nn12, Hs12, -⟩ := id V0
  have hin12 : ¬ ((3 : Int32) < 0 ∨ cl12.slots.size ≤ ((3 : Int32)).toNatClampNeg) := inb_of Sz12 ⟨by decide, by decide⟩
  have hat12 : cl12.slots[((3 : Int32)).toNatClampNeg]? = some (.int w3) := Hs12.at hin12 rfl
  have go13 : Go p e below s₁ F0 s₁ (mkF m 17 #[vr a1, vj ((((((((((0 : Int64) ||| ((w7 &&& (255 : Int32)).toInt64)) <<< ((8 : Int32) &&& 0x3f).toInt64) ||| ((w6 &&& (255 : Int32)).toInt64)) <<< ((8 : Int32) &&& 0x3f).toInt64) ||| ((w5 &&& (255 : Int32)).toInt64)) <<< ((8 : Int32) &&& 0x3f).toInt64) ||| ((w4 &&& (255 : Int32)).toInt64)) <<< ((8 : Int32) &&& 0x3f).toInt64) ||| ((w3 &&& (255 : Int32)).toInt64)), .second, vi (2 : Int32)] [(.int (2 : Int32)), (.ref a1), (.long (((((((((((0 : Int64) ||| ((w7 &&& (255 : Int32)).toInt64)) <<< ((8 : Int32) &&& 0x3f).toInt64) ||| ((w6 &&& (255 : Int32)).toInt64)) <<< ((8 : Int32) &&& 0x3f).toInt64) ||| ((w5 &&& (255 : Int32)).toInt64)) <<< ((8 : Int32) &&& 0x3f).toInt64) ||| ((w4 &&& (255 : Int32)).toInt64)) <<< ((8 : Int32) &&& 0x3f).toInt64) ||| ((w3 &&& (255 : Int32)).toInt64)) <<< ((8 : Int32) &&& 0x3f).toInt64))]) := by
    intro t_ k_
    refine go11 t_ ?_
    refine o_baload X0 hx hZ e0 Ar12 hin12 hat12 (hb hby d2_17) ?_
    refine o_sipush X0 hx (hb hby d2_18) (v := 255) rfl ?_
    refine o_iand X0 hx (hb hby d2_21) ?_
    refine o_i2l X0 hx (hb hby d2_22) ?_
    refine o_lor X0 hx (hb hby d2_23) ?_
    refine o_lstoreN X0 hx (hb hby d2_24) (L' := #[vr a1, vj ((((((((((0 : Int64) ||| ((w7 &&& (255 : Int32)).toInt64)) <<< ((8 : Int32) &&& 0x3f).toInt64) ||| ((w6 &&& (255 : Int32)).toInt64)) <<< ((8 : Int32) &&& 0x3f).toInt64) ||| ((w5 &&& (255 : Int32)).toInt64)) <<< ((8 : Int32) &&& 0x3f).toInt64) ||| ((w4 &&& (255 : Int32)).toInt64)) <<< ((8 : Int32) &&& 0x3f).toInt64) ||| ((w3 &&& (255 : Int32)).toInt64)), .second, vi (3 : Int32)]) rfl ?_
    refine o_iinc X0 hx (hb hby d2_25) rfl (L' := #[vr a1, vj ((((((((((0 : Int64) ||| ((w7 &&& (255 : Int32)).toInt64)) <<< ((8 : Int32) &&& 0x3f).toInt64) ||| ((w6 &&& (255 : Int32)).toInt64)) <<< ((8 : Int32) &&& 0x3f).toInt64) ||| ((w5 &&& (255 : Int32)).toInt64)) <<< ((8 : Int32) &&& 0x3f).toInt64) ||| ((w4 &&& (255 : Int32)).toInt64)) <<< ((8 : Int32) &&& 0x3f).toInt64) ||| ((w3 &&& (255 : Int32)).toInt64)), .second, vi (2 : Int32)]) rfl ?_
    refine o_goto X0 hx (hb hby d2_28) (pc' := 7) rfl (by decide) ?_
    refine o_iloadN X0 hx (hb hby d2_7) rfl ?_
    refine o_ifNo X0 hx (hb hby d2_8) ((if0 _ _).trans (flt (by decide : ¬ ((2 : Int32) < (0 : Int32)))).1) ?_
    refine o_lloadN X0 hx (hb hby d2_11) rfl ?_
    refine o_bipush X0 hx (hb hby d2_12) (v := 8) rfl ?_
    refine o_lshl X0 hx (hb hby d2_14) ?_
    refine o_aloadN X0 hx (hb hby d2_15) rfl rfl ?_
    refine o_iloadN X0 hx (hb hby d2_16) rfl ?_
    exact k_
  obtain ⟨cl14, Ar14, -, Sz14, Nn14, Hs14, -⟩ := id V0
  have hin14 : ¬ ((2 : Int32) < 0 ∨ cl14.slots.size ≤ ((2 : Int32)).toNatClampNeg) := inb_of Sz14 ⟨by decide, by decide⟩
  have hat14 : cl14.slots[((2 : Int32)).toNatClampNeg]? = some (.int w2) := Hs14.at hin14 rfl
  have go15 : Go p e below s₁ F0 s₁ (mkF m 17 #[vr a1, vj ((((((((((((0 : Int64) ||| ((w7 &&& (255 : Int32)).toInt64)) <<< ((8 : Int32) &&& 0x3f).toInt64) ||| ((w6 &&& (255 : Int32)).toInt64)) <<< ((8 : Int32) &&& 0x3f).toInt64) ||| ((w5 &&& (255 : Int32)).toInt64)) <<< ((8 : Int32) &&& 0x3f).toInt64) ||| ((w4 &&& (255 : Int32)).toInt64)) <<< ((8 : Int32) &&& 0x3f).toInt64) ||| ((w3 &&& (255 : Int32)).toInt64)) <<< ((8 : Int32) &&& 0x3f).toInt64) ||| ((w2 &&& (255 : Int32)).toInt64)), .second, vi (1 : Int32)] [(.int (1 : Int32)), (.ref a1), (.long (((((((((((((0 : Int64) ||| ((w7 &&& (255 : Int32)).toInt64)) <<< ((8 : Int32) &&& 0x3f).toInt64) ||| ((w6 &&& (255 : Int32)).toInt64)) <<< ((8 : Int32) &&& 0x3f).toInt64) ||| ((w5 &&& (255 : Int32)).toInt64)) <<< ((8 : Int32) &&& 0x3f).toInt64) ||| ((w4 &&& (255 : Int32)).toInt64)) <<< ((8 : Int32) &&& 0x3f).toInt64) ||| ((w3 &&& (255 : Int32)).toInt64)) <<< ((8 : Int32) &&& 0x3f).toInt64) ||| ((w2 &&& (255 : Int32)).toInt64)) <<< ((8 : Int32) &&& 0x3f).toInt64))]) := by
    intro t_ k_
    refine go13 t_ ?_
    refine o_baload X0 hx hZ e0 Ar14 hin14 hat14 (hb hby d2_17) ?_
    refine o_sipush X0 hx (hb hby d2_18) (v := 255) rfl ?_
    refine o_iand X0 hx (hb hby d2_21) ?_
    refine o_i2l X0 hx (hb hby d2_22) ?_
    refine o_lor X0 hx (hb hby d2_23) ?_
    refine o_lstoreN X0 hx (hb hby d2_24) (L' := #[vr a1, vj ((((((((((((0 : Int64) ||| ((w7 &&& (255 : Int32)).toInt64)) <<< ((8 : Int32) &&& 0x3f).toInt64) ||| ((w6 &&& (255 : Int32)).toInt64)) <<< ((8 : Int32) &&& 0x3f).toInt64) ||| ((w5 &&& (255 : Int32)).toInt64)) <<< ((8 : Int32) &&& 0x3f).toInt64) ||| ((w4 &&& (255 : Int32)).toInt64)) <<< ((8 : Int32) &&& 0x3f).toInt64) ||| ((w3 &&& (255 : Int32)).toInt64)) <<< ((8 : Int32) &&& 0x3f).toInt64) ||| ((w2 &&& (255 : Int32)).toInt64)), .second, vi (2 : Int32)]) rfl ?_
    refine o_iinc X0 hx (hb hby d2_25) rfl (L' := #[vr a1, vj ((((((((((((0 : Int64) ||| ((w7 &&& (255 : Int32)).toInt64)) <<< ((8 : Int32) &&& 0x3f).toInt64) ||| ((w6 &&& (255 : Int32)).toInt64)) <<< ((8 : Int32) &&& 0x3f).toInt64) ||| ((w5 &&& (255 : Int32)).toInt64)) <<< ((8 : Int32) &&& 0x3f).toInt64) ||| ((w4 &&& (255 : Int32)).toInt64)) <<< ((8 : Int32) &&& 0x3f).toInt64) ||| ((w3 &&& (255 : Int32)).toInt64)) <<< ((8 : Int32) &&& 0x3f).toInt64) ||| ((w2 &&& (255 : Int32)).toInt64)), .second, vi (1 : Int32)]) rfl ?_
    refine o_goto X0 hx (hb hby d2_28) (pc' := 7) rfl (by decide) ?_
    refine o_iloadN X0 hx (hb hby d2_7) rfl ?_
    refine o_ifNo X0 hx (hb hby d2_8) ((if0 _ _).trans (flt (by decide : ¬ ((1 : Int32) < (0 : Int32)))).1) ?_
    refine o_lloadN X0 hx (hb hby d2_11) rfl ?_
    refine o_bipush X0 hx (hb hby d2_12) (v := 8) rfl ?_
    refine o_lshl X0 hx (hb hby d2_14) ?_
    refine o_aloadN X0 hx (hb hby d2_15) rfl rfl ?_
    refine o_iloadN X0 hx (hb hby d2_16) rfl ?_
    exact k_
  obtain ⟨cl16, Ar16, -, Sz16, Nn16, Hs16, -⟩ := id V0
  have hin16 : ¬ ((1 : Int32) < 0 ∨ cl16.slots.size ≤ ((1 : Int32)).toNatClampNeg) := inb_of Sz16 ⟨by decide, by decide⟩
  have hat16 : cl16.slots[((1 : Int32)).toNatClampNeg]? = some (.int w1) := Hs16.at hin16 rfl
  have go17 : Go p e below s₁ F0 s₁ (mkF m 17 #[vr a1, vj ((((((((((((((0 : Int64) ||| ((w7 &&& (255 : Int32)).toInt64)) <<< ((8 : Int32) &&& 0x3f).toInt64) ||| ((w6 &&& (255 : Int32)).toInt64)) <<< ((8 : Int32) &&& 0x3f).toInt64) ||| ((w5 &&& (255 : Int32)).toInt64)) <<< ((8 : Int32) &&& 0x3f).toInt64) ||| ((w4 &&& (255 : Int32)).toInt64)) <<< ((8 : Int32) &&& 0x3f).toInt64) ||| ((w3 &&& (255 : Int32)).toInt64)) <<< ((8 : Int32) &&& 0x3f).toInt64) ||| ((w2 &&& (255 : Int32)).toInt64)) <<< ((8 : Int32) &&& 0x3f).toInt64) ||| ((w1 &&& (255 : Int32)).toInt64)), .second, vi (0 : Int32)] [(.int (0 : Int32)), (.ref a1), (.long (((((((((((((((0 : Int64) ||| ((w7 &&& (255 : Int32)).toInt64)) <<< ((8 : Int32) &&& 0x3f).toInt64) ||| ((w6 &&& (255 : Int32)).toInt64)) <<< ((8 : Int32) &&& 0x3f).toInt64) ||| ((w5 &&& (255 : Int32)).toInt64)) <<< ((8 : Int32) &&& 0x3f).toInt64) ||| ((w4 &&& (255 : Int32)).toInt64)) <<< ((8 : Int32) &&& 0x3f).toInt64) ||| ((w3 &&& (255 : Int32)).toInt64)) <<< ((8 : Int32) &&& 0x3f).toInt64) ||| ((w2 &&& (255 : Int32)).toInt64)) <<< ((8 : Int32) &&& 0x3f).toInt64) ||| ((w1 &&& (255 : Int32)).toInt64)) <<< ((8 : Int32) &&& 0x3f).toInt64))]) := by
    intro t_ k_
    refine go15 t_ ?_
    refine o_baload X0 hx hZ e0 Ar16 hin16 hat16 (hb hby d2_17) ?_
    refine o_sipush X0 hx (hb hby d2_18) (v := 255) rfl ?_
    refine o_iand X0 hx (hb hby d2_21) ?_
    refine o_i2l X0 hx (hb hby d2_22) ?_
    refine o_lor X0 hx (hb hby d2_23) ?_
    refine o_lstoreN X0 hx (hb hby d2_24) (L' := #[vr a1, vj ((((((((((((((0 : Int64) ||| ((w7 &&& (255 : Int32)).toInt64)) <<< ((8 : Int32) &&& 0x3f).toInt64) ||| ((w6 &&& (255 : Int32)).toInt64)) <<< ((8 : Int32) &&& 0x3f).toInt64) ||| ((w5 &&& (255 : Int32)).toInt64)) <<< ((8 : Int32) &&& 0x3f).toInt64) ||| ((w4 &&& (255 : Int32)).toInt64)) <<< ((8 : Int32) &&& 0x3f).toInt64) ||| ((w3 &&& (255 : Int32)).toInt64)) <<< ((8 : Int32) &&& 0x3f).toInt64) ||| ((w2 &&& (255 : Int32)).toInt64)) <<< ((8 : Int32) &&& 0x3f).toInt64) ||| ((w1 &&& (255 : Int32)).toInt64)), .second, vi (1 : Int32)]) rfl ?_
    refine o_iinc X0 hx (hb hby d2_25) rfl (L' := #[vr a1, vj ((((((((((((((0 : Int64) ||| ((w7 &&& (255 : Int32)).toInt64)) <<< ((8 : Int32) &&& 0x3f).toInt64) ||| ((w6 &&& (255 : Int32)).toInt64)) <<< ((8 : Int32) &&& 0x3f).toInt64) ||| ((w5 &&& (255 : Int32)).toInt64)) <<< ((8 : Int32) &&& 0x3f).toInt64) ||| ((w4 &&& (255 : Int32)).toInt64)) <<< ((8 : Int32) &&& 0x3f).toInt64) ||| ((w3 &&& (255 : Int32)).toInt64)) <<< ((8 : Int32) &&& 0x3f).toInt64) ||| ((w2 &&& (255 : Int32)).toInt64)) <<< ((8 : Int32) &&& 0x3f).toInt64) ||| ((w1 &&& (255 : Int32)).toInt64)), .second, vi (0 : Int32)]) rfl ?_
    refine o_goto X0 hx (hb hby d2_28) (pc' := 7) rfl (by decide) ?_
    refine o_iloadN X0 hx (hb hby d2_7) rfl ?_
    refine o_ifNo X0 hx (hb hby d2_8) ((if0 _ _).trans (flt (by decide : ¬ ((0 : Int32) < (0 : Int32)))).1) ?_
    refine o_lloadN X0 hx (hb hby d2_11) rfl ?_
    refine o_bipush X0 hx (hb hby d2_12) (v := 8) rfl ?_
    refine o_lshl X0 hx (hb hby d2_14) ?_
    refine o_aloadN X0 hx (hb hby d2_15) rfl rfl ?_
    refine o_iloadN X0 hx (hb hby d2_16) rfl ?_
    exact k_
  obtain ⟨cl18, Ar18, -, Sz18, Nn18, Hs18, -⟩ := id V0
  have hin18 : ¬ ((0 : Int32) < 0 ∨ cl18.slots.size ≤ ((0 : Int32)).toNatClampNeg) := inb_of Sz18 ⟨by decide, by decide⟩
  have hat18 : cl18.slots[((0 : Int32)).toNatClampNeg]? = some (.int w0) := Hs18.at hin18 rfl
  have go19 : Go p e below s₁ F0 s₁ (mkF m 32 #[vr a1, vj ((((((((((((((((0 : Int64) ||| ((w7 &&& (255 : Int32)).toInt64)) <<< ((8 : Int32) &&& 0x3f).toInt64) ||| ((w6 &&& (255 : Int32)).toInt64)) <<< ((8 : Int32) &&& 0x3f).toInt64) ||| ((w5 &&& (255 : Int32)).toInt64)) <<< ((8 : Int32) &&& 0x3f).toInt64) ||| ((w4 &&& (255 : Int32)).toInt64)) <<< ((8 : Int32) &&& 0x3f).toInt64) ||| ((w3 &&& (255 : Int32)).toInt64)) <<< ((8 : Int32) &&& 0x3f).toInt64) ||| ((w2 &&& (255 : Int32)).toInt64)) <<< ((8 : Int32) &&& 0x3f).toInt64) ||| ((w1 &&& (255 : Int32)).toInt64)) <<< ((8 : Int32) &&& 0x3f).toInt64) ||| ((w0 &&& (255 : Int32)).toInt64)), .second, vi (-1 : Int32)] [(.long ((((((((((((((((0 : Int64) ||| ((w7 &&& (255 : Int32)).toInt64)) <<< ((8 : Int32) &&& 0x3f).toInt64) ||| ((w6 &&& (255 : Int32)).toInt64)) <<< ((8 : Int32) &&& 0x3f).toInt64) ||| ((w5 &&& (255 : Int32)).toInt64)) <<< ((8 : Int32) &&& 0x3f).toInt64) ||| ((w4 &&& (255 : Int32)).toInt64)) <<< ((8 : Int32) &&& 0x3f).toInt64) ||| ((w3 &&& (255 : Int32)).toInt64)) <<< ((8 : Int32) &&& 0x3f).toInt64) ||| ((w2 &&& (255 : Int32)).toInt64)) <<< ((8 : Int32) &&& 0x3f).toInt64) ||| ((w1 &&& (255 : Int32)).toInt64)) <<< ((8 : Int32) &&& 0x3f).toInt64) ||| ((w0 &&& (255 : Int32)).toInt64)))]) := by
    intro t_ k_
    refine go17 t_ ?_
    refine o_baload X0 hx hZ e0 Ar18 hin18 hat18 (hb hby d2_17) ?_
    refine o_sipush X0 hx (hb hby d2_18) (v := 255) rfl ?_
    refine o_iand X0 hx (hb hby d2_21) ?_
    refine o_i2l X0 hx (hb hby d2_22) ?_
    refine o_lor X0 hx (hb hby d2_23) ?_
    refine o_lstoreN X0 hx (hb hby d2_24) (L' := #[vr a1, vj ((((((((((((((((0 : Int64) ||| ((w7 &&& (255 : Int32)).toInt64)) <<< ((8 : Int32) &&& 0x3f).toInt64) ||| ((w6 &&& (255 : Int32)).toInt64)) <<< ((8 : Int32) &&& 0x3f).toInt64) ||| ((w5 &&& (255 : Int32)).toInt64)) <<< ((8 : Int32) &&& 0x3f).toInt64) ||| ((w4 &&& (255 : Int32)).toInt64)) <<< ((8 : Int32) &&& 0x3f).toInt64) ||| ((w3 &&& (255 : Int32)).toInt64)) <<< ((8 : Int32) &&& 0x3f).toInt64) ||| ((w2 &&& (255 : Int32)).toInt64)) <<< ((8 : Int32) &&& 0x3f).toInt64) ||| ((w1 &&& (255 : Int32)).toInt64)) <<< ((8 : Int32) &&& 0x3f).toInt64) ||| ((w0 &&& (255 : Int32)).toInt64)), .second, vi (0 : Int32)]) rfl ?_
    refine o_iinc X0 hx (hb hby d2_25) rfl (L' := #[vr a1, vj ((((((((((((((((0 : Int64) ||| ((w7 &&& (255 : Int32)).toInt64)) <<< ((8 : Int32) &&& 0x3f).toInt64) ||| ((w6 &&& (255 : Int32)).toInt64)) <<< ((8 : Int32) &&& 0x3f).toInt64) ||| ((w5 &&& (255 : Int32)).toInt64)) <<< ((8 : Int32) &&& 0x3f).toInt64) ||| ((w4 &&& (255 : Int32)).toInt64)) <<< ((8 : Int32) &&& 0x3f).toInt64) ||| ((w3 &&& (255 : Int32)).toInt64)) <<< ((8 : Int32) &&& 0x3f).toInt64) ||| ((w2 &&& (255 : Int32)).toInt64)) <<< ((8 : Int32) &&& 0x3f).toInt64) ||| ((w1 &&& (255 : Int32)).toInt64)) <<< ((8 : Int32) &&& 0x3f).toInt64) ||| ((w0 &&& (255 : Int32)).toInt64)), .second, vi (-1 : Int32)]) rfl ?_
    refine o_goto X0 hx (hb hby d2_28) (pc' := 7) rfl (by decide) ?_
    refine o_iloadN X0 hx (hb hby d2_7) rfl ?_
    refine o_ifYes X0 hx (hb hby d2_8) (pc' := 31) rfl (by decide) ((if0 _ _).trans (tlt (by decide : (-1 : Int32) < (0 : Int32))).1) ?_
    refine o_lloadN X0 hx (hb hby d2_31) rfl ?_
    exact k_
  obtain ⟨fs, hr, hrun, hended, hW, hsame⟩ := X0.leave (v := some (.long ((((((((((((((((0 : Int64) ||| ((w7 &&& (255 : Int32)).toInt64)) <<< ((8 : Int32) &&& 0x3f).toInt64) ||| ((w6 &&& (255 : Int32)).toInt64)) <<< ((8 : Int32) &&& 0x3f).toInt64) ||| ((w5 &&& (255 : Int32)).toInt64)) <<< ((8 : Int32) &&& 0x3f).toInt64) ||| ((w4 &&& (255 : Int32)).toInt64)) <<< ((8 : Int32) &&& 0x3f).toInt64) ||| ((w3 &&& (255 : Int32)).toInt64)) <<< ((8 : Int32) &&& 0x3f).toInt64) ||| ((w2 &&& (255 : Int32)).toInt64)) <<< ((8 : Int32) &&& 0x3f).toInt64) ||| ((w1 &&& (255 : Int32)).toInt64)) <<< ((8 : Int32) &&& 0x3f).toInt64) ||| ((w0 &&& (255 : Int32)).toInt64)))) (fun h => by rw [Bd.returns] at h; cases h)
  refine ⟨_, _, pre0 _ (go19 _ ?_), hrun, hended, _, _, rfl, ?_, ⟨_, rfl⟩, hW, hsame.mono (by decide) (by decide)⟩
  · skip
    exact retOut X0 hx Bd.returns rfl (Or.inr (Or.inl ⟨rfl, rfl, _, rfl⟩)) (hb hby d2_32) hr
  · show Q2_8 Z a1 k1 w0 w1 w2 w3 w4 w5 w6 w7 h0 n0 _ s₁.heap _
    rw [e0]
    exact ⟨(congrArg (fun z => some (Value.long z)) (show ((((((((((((((((0 : Int64) ||| ((w7 &&& (255 : Int32)).toInt64)) <<< ((8 : Int32) &&& 0x3f).toInt64) ||| ((w6 &&& (255 : Int32)).toInt64)) <<< ((8 : Int32) &&& 0x3f).toInt64) ||| ((w5 &&& (255 : Int32)).toInt64)) <<< ((8 : Int32) &&& 0x3f).toInt64) ||| ((w4 &&& (255 : Int32)).toInt64)) <<< ((8 : Int32) &&& 0x3f).toInt64) ||| ((w3 &&& (255 : Int32)).toInt64)) <<< ((8 : Int32) &&& 0x3f).toInt64) ||| ((w2 &&& (255 : Int32)).toInt64)) <<< ((8 : Int32) &&& 0x3f).toInt64) ||| ((w1 &&& (255 : Int32)).toInt64)) <<< ((8 : Int32) &&& 0x3f).toInt64) ||| ((w0 &&& (255 : Int32)).toInt64)) = f2_8 w0 w1 w2 w3 w4 w5 w6 w7 from by unfold f2_8; rfl)), N0, rfl⟩


theorem own_9 (p : Int32) : ((p &&& (2147483647 : Int32)) % (9 : Int32)) = (0 : Int32) ∨ ((p &&& (2147483647 : Int32)) % (9 : Int32)) = (1 : Int32) ∨ ((p &&& (2147483647 : Int32)) % (9 : Int32)) = (2 : Int32) ∨ ((p &&& (2147483647 : Int32)) % (9 : Int32)) = (3 : Int32) ∨ ((p &&& (2147483647 : Int32)) % (9 : Int32)) = (4 : Int32) ∨ ((p &&& (2147483647 : Int32)) % (9 : Int32)) = (5 : Int32) ∨ ((p &&& (2147483647 : Int32)) % (9 : Int32)) = (6 : Int32) ∨ ((p &&& (2147483647 : Int32)) % (9 : Int32)) = (7 : Int32) ∨ ((p &&& (2147483647 : Int32)) % (9 : Int32)) = (8 : Int32) := by
  have h0 : (p &&& (2147483647 : Int32)).toInt = p.toInt % 2147483648 := c_mask p 2147483647 31 (by decide) (by decide)
  have h : ((p &&& (2147483647 : Int32)) % (9 : Int32)).toInt = (p &&& (2147483647 : Int32)).toInt % 9 := (c_irem _ (9 : Int32) 9 rfl).1 (by omega)
  have h2 : ((p &&& (2147483647 : Int32)) % (9 : Int32)).toInt = 0 ∨ ((p &&& (2147483647 : Int32)) % (9 : Int32)).toInt = 1 ∨ ((p &&& (2147483647 : Int32)) % (9 : Int32)).toInt = 2 ∨ ((p &&& (2147483647 : Int32)) % (9 : Int32)).toInt = 3 ∨ ((p &&& (2147483647 : Int32)) % (9 : Int32)).toInt = 4 ∨ ((p &&& (2147483647 : Int32)) % (9 : Int32)).toInt = 5 ∨ ((p &&& (2147483647 : Int32)) % (9 : Int32)).toInt = 6 ∨ ((p &&& (2147483647 : Int32)) % (9 : Int32)).toInt = 7 ∨ ((p &&& (2147483647 : Int32)) % (9 : Int32)).toInt = 8 := by omega
  rcases h2 with h2 | h2 | h2 | h2 | h2 | h2 | h2 | h2 | h2
  · exact Or.inl (Int32.toInt_inj.mp h2)
  · exact Or.inr (Or.inl (Int32.toInt_inj.mp h2))
  · exact Or.inr (Or.inr (Or.inl (Int32.toInt_inj.mp h2)))
  · exact Or.inr (Or.inr (Or.inr (Or.inl (Int32.toInt_inj.mp h2))))
  · exact Or.inr (Or.inr (Or.inr (Or.inr (Or.inl (Int32.toInt_inj.mp h2)))))
  · exact Or.inr (Or.inr (Or.inr (Or.inr (Or.inr (Or.inl (Int32.toInt_inj.mp h2))))))
  · exact Or.inr (Or.inr (Or.inr (Or.inr (Or.inr (Or.inr (Or.inl (Int32.toInt_inj.mp h2)))))))
  · exact Or.inr (Or.inr (Or.inr (Or.inr (Or.inr (Or.inr (Or.inr (Or.inl (Int32.toInt_inj.mp h2))))))))
  · exact Or.inr (Or.inr (Or.inr (Or.inr (Or.inr (Or.inr (Or.inr (Or.inr (Int32.toInt_inj.mp h2))))))))
theorem own_byte0 (q : Int64) (U : Int) (hU : U = q.toInt % 18446744073709551616) : (((q.toInt32).toInt8.toInt32) &&& (255 : Int32)).toInt = U % 256 := by
  have a1 := c_l2i q
  have a2 := c_i2b q.toInt32
  have a3 : (((q.toInt32).toInt8.toInt32) &&& (255 : Int32)).toInt = ((q.toInt32).toInt8.toInt32).toInt % 256 := c_mask _ 255 8 (by decide) (by decide)
  omega
theorem own_step (acc : Int64) (w : Int32) (A u : Int) (h : (acc.toInt - A) % 18446744073709551616 = 0) (hw : (w &&& (255 : Int32)).toInt = u % 256) : (((acc <<< ((8 : Int32) &&& 0x3f).toInt64) ||| ((w &&& (255 : Int32)).toInt64)).toInt - (256 * A + u % 256)) % 18446744073709551616 = 0 := by
  have b1 : ((acc <<< ((8 : Int32) &&& 0x3f).toInt64).toInt - acc.toInt * 256) % 18446744073709551616 = 0 := c_lshl acc 8 8 (by decide)
  have b2 := c_i2l (w &&& (255 : Int32))
  have b3 := c_orL (acc <<< ((8 : Int32) &&& 0x3f).toInt64) ((w &&& (255 : Int32)).toInt64) 8 (by decide) 256 rfl (by omega) (by omega) (by omega)
  omega

theorem own_byte1 (q : Int64) (U : Int) (hU : U = q.toInt % 18446744073709551616) : (((((q.toUInt64 >>> ((8 : Int32) &&& 0x3f).toInt64.toUInt64).toInt64).toInt32).toInt8.toInt32) &&& (255 : Int32)).toInt = (U / 256) % 256 := by
  have a0 : ((q.toUInt64 >>> ((8 : Int32) &&& 0x3f).toInt64.toUInt64).toInt64).toInt = (q.toInt % 18446744073709551616) / 256 := c_lushr q (8 : Int32) 8 (by decide) (by decide)
  have a1 := c_l2i ((q.toUInt64 >>> ((8 : Int32) &&& 0x3f).toInt64.toUInt64).toInt64)
  have a2 := c_i2b (((q.toUInt64 >>> ((8 : Int32) &&& 0x3f).toInt64.toUInt64).toInt64).toInt32)
  have a3 : (((((q.toUInt64 >>> ((8 : Int32) &&& 0x3f).toInt64.toUInt64).toInt64).toInt32).toInt8.toInt32) &&& (255 : Int32)).toInt = ((((q.toUInt64 >>> ((8 : Int32) &&& 0x3f).toInt64.toUInt64).toInt64).toInt32).toInt8.toInt32).toInt % 256 := c_mask _ 255 8 (by decide) (by decide)
  omega

theorem own_byte2 (q : Int64) (U : Int) (hU : U = q.toInt % 18446744073709551616) : (((((q.toUInt64 >>> ((16 : Int32) &&& 0x3f).toInt64.toUInt64).toInt64).toInt32).toInt8.toInt32) &&& (255 : Int32)).toInt = (U / 65536) % 256 := by
  have a0 : ((q.toUInt64 >>> ((16 : Int32) &&& 0x3f).toInt64.toUInt64).toInt64).toInt = (q.toInt % 18446744073709551616) / 65536 := c_lushr q (16 : Int32) 16 (by decide) (by decide)
  have a1 := c_l2i ((q.toUInt64 >>> ((16 : Int32) &&& 0x3f).toInt64.toUInt64).toInt64)
  have a2 := c_i2b (((q.toUInt64 >>> ((16 : Int32) &&& 0x3f).toInt64.toUInt64).toInt64).toInt32)
  have a3 : (((((q.toUInt64 >>> ((16 : Int32) &&& 0x3f).toInt64.toUInt64).toInt64).toInt32).toInt8.toInt32) &&& (255 : Int32)).toInt = ((((q.toUInt64 >>> ((16 : Int32) &&& 0x3f).toInt64.toUInt64).toInt64).toInt32).toInt8.toInt32).toInt % 256 := c_mask _ 255 8 (by decide) (by decide)
  omega

theorem own_byte3 (q : Int64) (U : Int) (hU : U = q.toInt % 18446744073709551616) : (((((q.toUInt64 >>> ((24 : Int32) &&& 0x3f).toInt64.toUInt64).toInt64).toInt32).toInt8.toInt32) &&& (255 : Int32)).toInt = (U / 16777216) % 256 := by
  have a0 : ((q.toUInt64 >>> ((24 : Int32) &&& 0x3f).toInt64.toUInt64).toInt64).toInt = (q.toInt % 18446744073709551616) / 16777216 := c_lushr q (24 : Int32) 24 (by decide) (by decide)
  have a1 := c_l2i ((q.toUInt64 >>> ((24 : Int32) &&& 0x3f).toInt64.toUInt64).toInt64)
  have a2 := c_i2b (((q.toUInt64 >>> ((24 : Int32) &&& 0x3f).toInt64.toUInt64).toInt64).toInt32)
  have a3 : (((((q.toUInt64 >>> ((24 : Int32) &&& 0x3f).toInt64.toUInt64).toInt64).toInt32).toInt8.toInt32) &&& (255 : Int32)).toInt = ((((q.toUInt64 >>> ((24 : Int32) &&& 0x3f).toInt64.toUInt64).toInt64).toInt32).toInt8.toInt32).toInt % 256 := c_mask _ 255 8 (by decide) (by decide)
  omega

theorem own_byte4 (q : Int64) (U : Int) (hU : U = q.toInt % 18446744073709551616) : (((((q.toUInt64 >>> ((32 : Int32) &&& 0x3f).toInt64.toUInt64).toInt64).toInt32).toInt8.toInt32) &&& (255 : Int32)).toInt = (U / 4294967296) % 256 := by
  have a0 : ((q.toUInt64 >>> ((32 : Int32) &&& 0x3f).toInt64.toUInt64).toInt64).toInt = (q.toInt % 18446744073709551616) / 4294967296 := c_lushr q (32 : Int32) 32 (by decide) (by decide)
  have a1 := c_l2i ((q.toUInt64 >>> ((32 : Int32) &&& 0x3f).toInt64.toUInt64).toInt64)
  have a2 := c_i2b (((q.toUInt64 >>> ((32 : Int32) &&& 0x3f).toInt64.toUInt64).toInt64).toInt32)
  have a3 : (((((q.toUInt64 >>> ((32 : Int32) &&& 0x3f).toInt64.toUInt64).toInt64).toInt32).toInt8.toInt32) &&& (255 : Int32)).toInt = ((((q.toUInt64 >>> ((32 : Int32) &&& 0x3f).toInt64.toUInt64).toInt64).toInt32).toInt8.toInt32).toInt % 256 := c_mask _ 255 8 (by decide) (by decide)
  omega

theorem own_byte5 (q : Int64) (U : Int) (hU : U = q.toInt % 18446744073709551616) : (((((q.toUInt64 >>> ((40 : Int32) &&& 0x3f).toInt64.toUInt64).toInt64).toInt32).toInt8.toInt32) &&& (255 : Int32)).toInt = (U / 1099511627776) % 256 := by
  have a0 : ((q.toUInt64 >>> ((40 : Int32) &&& 0x3f).toInt64.toUInt64).toInt64).toInt = (q.toInt % 18446744073709551616) / 1099511627776 := c_lushr q (40 : Int32) 40 (by decide) (by decide)
  have a1 := c_l2i ((q.toUInt64 >>> ((40 : Int32) &&& 0x3f).toInt64.toUInt64).toInt64)
  have a2 := c_i2b (((q.toUInt64 >>> ((40 : Int32) &&& 0x3f).toInt64.toUInt64).toInt64).toInt32)
  have a3 : (((((q.toUInt64 >>> ((40 : Int32) &&& 0x3f).toInt64.toUInt64).toInt64).toInt32).toInt8.toInt32) &&& (255 : Int32)).toInt = ((((q.toUInt64 >>> ((40 : Int32) &&& 0x3f).toInt64.toUInt64).toInt64).toInt32).toInt8.toInt32).toInt % 256 := c_mask _ 255 8 (by decide) (by decide)
  omega

theorem own_byte6 (q : Int64) (U : Int) (hU : U = q.toInt % 18446744073709551616) : (((((q.toUInt64 >>> ((48 : Int32) &&& 0x3f).toInt64.toUInt64).toInt64).toInt32).toInt8.toInt32) &&& (255 : Int32)).toInt = (U / 281474976710656) % 256 := by
  have a0 : ((q.toUInt64 >>> ((48 : Int32) &&& 0x3f).toInt64.toUInt64).toInt64).toInt = (q.toInt % 18446744073709551616) / 281474976710656 := c_lushr q (48 : Int32) 48 (by decide) (by decide)
  have a1 := c_l2i ((q.toUInt64 >>> ((48 : Int32) &&& 0x3f).toInt64.toUInt64).toInt64)
  have a2 := c_i2b (((q.toUInt64 >>> ((48 : Int32) &&& 0x3f).toInt64.toUInt64).toInt64).toInt32)
  have a3 : (((((q.toUInt64 >>> ((48 : Int32) &&& 0x3f).toInt64.toUInt64).toInt64).toInt32).toInt8.toInt32) &&& (255 : Int32)).toInt = ((((q.toUInt64 >>> ((48 : Int32) &&& 0x3f).toInt64.toUInt64).toInt64).toInt32).toInt8.toInt32).toInt % 256 := c_mask _ 255 8 (by decide) (by decide)
  omega

theorem own_byte7 (q : Int64) (U : Int) (hU : U = q.toInt % 18446744073709551616) : (((((q.toUInt64 >>> ((56 : Int32) &&& 0x3f).toInt64.toUInt64).toInt64).toInt32).toInt8.toInt32) &&& (255 : Int32)).toInt = (U / 72057594037927936) % 256 := by
  have a0 : ((q.toUInt64 >>> ((56 : Int32) &&& 0x3f).toInt64.toUInt64).toInt64).toInt = (q.toInt % 18446744073709551616) / 72057594037927936 := c_lushr q (56 : Int32) 56 (by decide) (by decide)
  have a1 := c_l2i ((q.toUInt64 >>> ((56 : Int32) &&& 0x3f).toInt64.toUInt64).toInt64)
  have a2 := c_i2b (((q.toUInt64 >>> ((56 : Int32) &&& 0x3f).toInt64.toUInt64).toInt64).toInt32)
  have a3 : (((((q.toUInt64 >>> ((56 : Int32) &&& 0x3f).toInt64.toUInt64).toInt64).toInt32).toInt8.toInt32) &&& (255 : Int32)).toInt = ((((q.toUInt64 >>> ((56 : Int32) &&& 0x3f).toInt64.toUInt64).toInt64).toInt32).toInt8.toInt32).toInt % 256 := c_mask _ 255 8 (by decide) (by decide)
  omega

set_option maxHeartbeats 40000000 in
theorem own_law_0 (q : Int64) : (f2_0 ) = (q &&& (0 : Int64)) := by
  apply Int64.toInt_inj.mp
  have h : (q &&& (0 : Int64)).toInt = q.toInt % 1 := c_maskL q 0 0 (by decide) (by decide)
  rw [h]; show (0 : Int64).toInt = _; rw [show (0 : Int64).toInt = 0 from rfl]; omega

set_option maxHeartbeats 40000000 in
theorem own_law_1 (q : Int64) : (f2_1 ((q.toInt32).toInt8.toInt32)) = (q &&& (255 : Int64)) := by
  obtain ⟨U, hU⟩ : ∃ U : Int, U = q.toInt % 18446744073709551616 := ⟨_, rfl⟩
  have s1 : ((0 : Int64).toInt - 0) % 18446744073709551616 = 0 := rfl
  have s0 := own_step _ ((q.toInt32).toInt8.toInt32) _ U s1 (own_byte0 q U hU)
  unfold f2_1
  apply Int64.toInt_inj.mp
  have t : (256 * 0 + U % 256) = U % 256 := by omega
  rw [t] at s0
  have h : (q &&& (255 : Int64)).toInt = q.toInt % 256 := c_maskL q (255 : Int64) 8 (by decide) (by decide)
  rw [h]
  have r1 := Int64.toInt_lt (f2_1 ((q.toInt32).toInt8.toInt32)); have r2 := Int64.le_toInt (f2_1 ((q.toInt32).toInt8.toInt32))
  unfold f2_1 at r1 r2
  have e0 : ((0 : Int64) <<< ((8 : Int32) &&& 0x3f).toInt64) = (0 : Int64) := by decide
  rw [e0] at s0
  have := q.toInt_lt; have := q.le_toInt
  omega

set_option maxHeartbeats 40000000 in
theorem own_law_2 (q : Int64) : (f2_2 ((q.toInt32).toInt8.toInt32) ((((q.toUInt64 >>> ((8 : Int32) &&& 0x3f).toInt64.toUInt64).toInt64).toInt32).toInt8.toInt32)) = (q &&& (65535 : Int64)) := by
  obtain ⟨U, hU⟩ : ∃ U : Int, U = q.toInt % 18446744073709551616 := ⟨_, rfl⟩
  have s2 : ((0 : Int64).toInt - 0) % 18446744073709551616 = 0 := rfl
  have s1 := own_step _ ((((q.toUInt64 >>> ((8 : Int32) &&& 0x3f).toInt64.toUInt64).toInt64).toInt32).toInt8.toInt32) _ (U / 256) s2 (own_byte1 q U hU)
  have s0 := own_step _ ((q.toInt32).toInt8.toInt32) _ U s1 (own_byte0 q U hU)
  unfold f2_2
  apply Int64.toInt_inj.mp
  have t : (256 * (256 * 0 + U / 256 % 256) + U % 256) = U % 65536 := by omega
  rw [t] at s0
  have h : (q &&& (65535 : Int64)).toInt = q.toInt % 65536 := c_maskL q (65535 : Int64) 16 (by decide) (by decide)
  rw [h]
  have r1 := Int64.toInt_lt (f2_2 ((q.toInt32).toInt8.toInt32) ((((q.toUInt64 >>> ((8 : Int32) &&& 0x3f).toInt64.toUInt64).toInt64).toInt32).toInt8.toInt32)); have r2 := Int64.le_toInt (f2_2 ((q.toInt32).toInt8.toInt32) ((((q.toUInt64 >>> ((8 : Int32) &&& 0x3f).toInt64.toUInt64).toInt64).toInt32).toInt8.toInt32))
  unfold f2_2 at r1 r2
  have e0 : ((0 : Int64) <<< ((8 : Int32) &&& 0x3f).toInt64) = (0 : Int64) := by decide
  rw [e0] at s0
  have := q.toInt_lt; have := q.le_toInt
  omega

set_option maxHeartbeats 40000000 in
theorem own_law_3 (q : Int64) : (f2_3 ((q.toInt32).toInt8.toInt32) ((((q.toUInt64 >>> ((8 : Int32) &&& 0x3f).toInt64.toUInt64).toInt64).toInt32).toInt8.toInt32) ((((q.toUInt64 >>> ((16 : Int32) &&& 0x3f).toInt64.toUInt64).toInt64).toInt32).toInt8.toInt32)) = (q &&& (16777215 : Int64)) := by
  obtain ⟨U, hU⟩ : ∃ U : Int, U = q.toInt % 18446744073709551616 := ⟨_, rfl⟩
  have s3 : ((0 : Int64).toInt - 0) % 18446744073709551616 = 0 := rfl
  have s2 := own_step _ ((((q.toUInt64 >>> ((16 : Int32) &&& 0x3f).toInt64.toUInt64).toInt64).toInt32).toInt8.toInt32) _ (U / 65536) s3 (own_byte2 q U hU)
  have s1 := own_step _ ((((q.toUInt64 >>> ((8 : Int32) &&& 0x3f).toInt64.toUInt64).toInt64).toInt32).toInt8.toInt32) _ (U / 256) s2 (own_byte1 q U hU)
  have s0 := own_step _ ((q.toInt32).toInt8.toInt32) _ U s1 (own_byte0 q U hU)
  unfold f2_3
  apply Int64.toInt_inj.mp
  have t : (256 * (256 * (256 * 0 + U / 65536 % 256) + U / 256 % 256) + U % 256) = U % 16777216 := by omega
  rw [t] at s0
  have h : (q &&& (16777215 : Int64)).toInt = q.toInt % 16777216 := c_maskL q (16777215 : Int64) 24 (by decide) (by decide)
  rw [h]
  have r1 := Int64.toInt_lt (f2_3 ((q.toInt32).toInt8.toInt32) ((((q.toUInt64 >>> ((8 : Int32) &&& 0x3f).toInt64.toUInt64).toInt64).toInt32).toInt8.toInt32) ((((q.toUInt64 >>> ((16 : Int32) &&& 0x3f).toInt64.toUInt64).toInt64).toInt32).toInt8.toInt32)); have r2 := Int64.le_toInt (f2_3 ((q.toInt32).toInt8.toInt32) ((((q.toUInt64 >>> ((8 : Int32) &&& 0x3f).toInt64.toUInt64).toInt64).toInt32).toInt8.toInt32) ((((q.toUInt64 >>> ((16 : Int32) &&& 0x3f).toInt64.toUInt64).toInt64).toInt32).toInt8.toInt32))
  unfold f2_3 at r1 r2
  have e0 : ((0 : Int64) <<< ((8 : Int32) &&& 0x3f).toInt64) = (0 : Int64) := by decide
  rw [e0] at s0
  have := q.toInt_lt; have := q.le_toInt
  omega

set_option maxHeartbeats 40000000 in
theorem own_law_4 (q : Int64) : (f2_4 ((q.toInt32).toInt8.toInt32) ((((q.toUInt64 >>> ((8 : Int32) &&& 0x3f).toInt64.toUInt64).toInt64).toInt32).toInt8.toInt32) ((((q.toUInt64 >>> ((16 : Int32) &&& 0x3f).toInt64.toUInt64).toInt64).toInt32).toInt8.toInt32) ((((q.toUInt64 >>> ((24 : Int32) &&& 0x3f).toInt64.toUInt64).toInt64).toInt32).toInt8.toInt32)) = (q &&& (4294967295 : Int64)) := by
  obtain ⟨U, hU⟩ : ∃ U : Int, U = q.toInt % 18446744073709551616 := ⟨_, rfl⟩
  have s4 : ((0 : Int64).toInt - 0) % 18446744073709551616 = 0 := rfl
  have s3 := own_step _ ((((q.toUInt64 >>> ((24 : Int32) &&& 0x3f).toInt64.toUInt64).toInt64).toInt32).toInt8.toInt32) _ (U / 16777216) s4 (own_byte3 q U hU)
  have s2 := own_step _ ((((q.toUInt64 >>> ((16 : Int32) &&& 0x3f).toInt64.toUInt64).toInt64).toInt32).toInt8.toInt32) _ (U / 65536) s3 (own_byte2 q U hU)
  have s1 := own_step _ ((((q.toUInt64 >>> ((8 : Int32) &&& 0x3f).toInt64.toUInt64).toInt64).toInt32).toInt8.toInt32) _ (U / 256) s2 (own_byte1 q U hU)
  have s0 := own_step _ ((q.toInt32).toInt8.toInt32) _ U s1 (own_byte0 q U hU)
  unfold f2_4
  apply Int64.toInt_inj.mp
  have t : (256 * (256 * (256 * (256 * 0 + U / 16777216 % 256) + U / 65536 % 256) + U / 256 % 256) + U % 256) = U % 4294967296 := by omega
  rw [t] at s0
  have h : (q &&& (4294967295 : Int64)).toInt = q.toInt % 4294967296 := c_maskL q (4294967295 : Int64) 32 (by decide) (by decide)
  rw [h]
  have r1 := Int64.toInt_lt (f2_4 ((q.toInt32).toInt8.toInt32) ((((q.toUInt64 >>> ((8 : Int32) &&& 0x3f).toInt64.toUInt64).toInt64).toInt32).toInt8.toInt32) ((((q.toUInt64 >>> ((16 : Int32) &&& 0x3f).toInt64.toUInt64).toInt64).toInt32).toInt8.toInt32) ((((q.toUInt64 >>> ((24 : Int32) &&& 0x3f).toInt64.toUInt64).toInt64).toInt32).toInt8.toInt32)); have r2 := Int64.le_toInt (f2_4 ((q.toInt32).toInt8.toInt32) ((((q.toUInt64 >>> ((8 : Int32) &&& 0x3f).toInt64.toUInt64).toInt64).toInt32).toInt8.toInt32) ((((q.toUInt64 >>> ((16 : Int32) &&& 0x3f).toInt64.toUInt64).toInt64).toInt32).toInt8.toInt32) ((((q.toUInt64 >>> ((24 : Int32) &&& 0x3f).toInt64.toUInt64).toInt64).toInt32).toInt8.toInt32))
  unfold f2_4 at r1 r2
  have e0 : ((0 : Int64) <<< ((8 : Int32) &&& 0x3f).toInt64) = (0 : Int64) := by decide
  rw [e0] at s0
  have := q.toInt_lt; have := q.le_toInt
  omega

set_option maxHeartbeats 40000000 in
theorem own_law_5 (q : Int64) : (f2_5 ((q.toInt32).toInt8.toInt32) ((((q.toUInt64 >>> ((8 : Int32) &&& 0x3f).toInt64.toUInt64).toInt64).toInt32).toInt8.toInt32) ((((q.toUInt64 >>> ((16 : Int32) &&& 0x3f).toInt64.toUInt64).toInt64).toInt32).toInt8.toInt32) ((((q.toUInt64 >>> ((24 : Int32) &&& 0x3f).toInt64.toUInt64).toInt64).toInt32).toInt8.toInt32) ((((q.toUInt64 >>> ((32 : Int32) &&& 0x3f).toInt64.toUInt64).toInt64).toInt32).toInt8.toInt32)) = (q &&& (1099511627775 : Int64)) := by
  obtain ⟨U, hU⟩ : ∃ U : Int, U = q.toInt % 18446744073709551616 := ⟨_, rfl⟩
  have s5 : ((0 : Int64).toInt - 0) % 18446744073709551616 = 0 := rfl
  have s4 := own_step _ ((((q.toUInt64 >>> ((32 : Int32) &&& 0x3f).toInt64.toUInt64).toInt64).toInt32).toInt8.toInt32) _ (U / 4294967296) s5 (own_byte4 q U hU)
  have s3 := own_step _ ((((q.toUInt64 >>> ((24 : Int32) &&& 0x3f).toInt64.toUInt64).toInt64).toInt32).toInt8.toInt32) _ (U / 16777216) s4 (own_byte3 q U hU)
  have s2 := own_step _ ((((q.toUInt64 >>> ((16 : Int32) &&& 0x3f).toInt64.toUInt64).toInt64).toInt32).toInt8.toInt32) _ (U / 65536) s3 (own_byte2 q U hU)
  have s1 := own_step _ ((((q.toUInt64 >>> ((8 : Int32) &&& 0x3f).toInt64.toUInt64).toInt64).toInt32).toInt8.toInt32) _ (U / 256) s2 (own_byte1 q U hU)
  have s0 := own_step _ ((q.toInt32).toInt8.toInt32) _ U s1 (own_byte0 q U hU)
  unfold f2_5
  apply Int64.toInt_inj.mp
  have t : (256 * (256 * (256 * (256 * (256 * 0 + U / 4294967296 % 256) + U / 16777216 % 256) + U / 65536 % 256) + U / 256 % 256) + U % 256) = U % 1099511627776 := by omega
  rw [t] at s0
  have h : (q &&& (1099511627775 : Int64)).toInt = q.toInt % 1099511627776 := c_maskL q (1099511627775 : Int64) 40 (by decide) (by decide)
  rw [h]
  have r1 := Int64.toInt_lt (f2_5 ((q.toInt32).toInt8.toInt32) ((((q.toUInt64 >>> ((8 : Int32) &&& 0x3f).toInt64.toUInt64).toInt64).toInt32).toInt8.toInt32) ((((q.toUInt64 >>> ((16 : Int32) &&& 0x3f).toInt64.toUInt64).toInt64).toInt32).toInt8.toInt32) ((((q.toUInt64 >>> ((24 : Int32) &&& 0x3f).toInt64.toUInt64).toInt64).toInt32).toInt8.toInt32) ((((q.toUInt64 >>> ((32 : Int32) &&& 0x3f).toInt64.toUInt64).toInt64).toInt32).toInt8.toInt32)); have r2 := Int64.le_toInt (f2_5 ((q.toInt32).toInt8.toInt32) ((((q.toUInt64 >>> ((8 : Int32) &&& 0x3f).toInt64.toUInt64).toInt64).toInt32).toInt8.toInt32) ((((q.toUInt64 >>> ((16 : Int32) &&& 0x3f).toInt64.toUInt64).toInt64).toInt32).toInt8.toInt32) ((((q.toUInt64 >>> ((24 : Int32) &&& 0x3f).toInt64.toUInt64).toInt64).toInt32).toInt8.toInt32) ((((q.toUInt64 >>> ((32 : Int32) &&& 0x3f).toInt64.toUInt64).toInt64).toInt32).toInt8.toInt32))
  unfold f2_5 at r1 r2
  have e0 : ((0 : Int64) <<< ((8 : Int32) &&& 0x3f).toInt64) = (0 : Int64) := by decide
  rw [e0] at s0
  have := q.toInt_lt; have := q.le_toInt
  omega

set_option maxHeartbeats 40000000 in
theorem own_law_6 (q : Int64) : (f2_6 ((q.toInt32).toInt8.toInt32) ((((q.toUInt64 >>> ((8 : Int32) &&& 0x3f).toInt64.toUInt64).toInt64).toInt32).toInt8.toInt32) ((((q.toUInt64 >>> ((16 : Int32) &&& 0x3f).toInt64.toUInt64).toInt64).toInt32).toInt8.toInt32) ((((q.toUInt64 >>> ((24 : Int32) &&& 0x3f).toInt64.toUInt64).toInt64).toInt32).toInt8.toInt32) ((((q.toUInt64 >>> ((32 : Int32) &&& 0x3f).toInt64.toUInt64).toInt64).toInt32).toInt8.toInt32) ((((q.toUInt64 >>> ((40 : Int32) &&& 0x3f).toInt64.toUInt64).toInt64).toInt32).toInt8.toInt32)) = (q &&& (281474976710655 : Int64)) := by
  obtain ⟨U, hU⟩ : ∃ U : Int, U = q.toInt % 18446744073709551616 := ⟨_, rfl⟩
  have s6 : ((0 : Int64).toInt - 0) % 18446744073709551616 = 0 := rfl
  have s5 := own_step _ ((((q.toUInt64 >>> ((40 : Int32) &&& 0x3f).toInt64.toUInt64).toInt64).toInt32).toInt8.toInt32) _ (U / 1099511627776) s6 (own_byte5 q U hU)
  have s4 := own_step _ ((((q.toUInt64 >>> ((32 : Int32) &&& 0x3f).toInt64.toUInt64).toInt64).toInt32).toInt8.toInt32) _ (U / 4294967296) s5 (own_byte4 q U hU)
  have s3 := own_step _ ((((q.toUInt64 >>> ((24 : Int32) &&& 0x3f).toInt64.toUInt64).toInt64).toInt32).toInt8.toInt32) _ (U / 16777216) s4 (own_byte3 q U hU)
  have s2 := own_step _ ((((q.toUInt64 >>> ((16 : Int32) &&& 0x3f).toInt64.toUInt64).toInt64).toInt32).toInt8.toInt32) _ (U / 65536) s3 (own_byte2 q U hU)
  have s1 := own_step _ ((((q.toUInt64 >>> ((8 : Int32) &&& 0x3f).toInt64.toUInt64).toInt64).toInt32).toInt8.toInt32) _ (U / 256) s2 (own_byte1 q U hU)
  have s0 := own_step _ ((q.toInt32).toInt8.toInt32) _ U s1 (own_byte0 q U hU)
  unfold f2_6
  apply Int64.toInt_inj.mp
  have t : (256 * (256 * (256 * (256 * (256 * (256 * 0 + U / 1099511627776 % 256) + U / 4294967296 % 256) + U / 16777216 % 256) + U / 65536 % 256) + U / 256 % 256) + U % 256) = U % 281474976710656 := by omega
  rw [t] at s0
  have h : (q &&& (281474976710655 : Int64)).toInt = q.toInt % 281474976710656 := c_maskL q (281474976710655 : Int64) 48 (by decide) (by decide)
  rw [h]
  have r1 := Int64.toInt_lt (f2_6 ((q.toInt32).toInt8.toInt32) ((((q.toUInt64 >>> ((8 : Int32) &&& 0x3f).toInt64.toUInt64).toInt64).toInt32).toInt8.toInt32) ((((q.toUInt64 >>> ((16 : Int32) &&& 0x3f).toInt64.toUInt64).toInt64).toInt32).toInt8.toInt32) ((((q.toUInt64 >>> ((24 : Int32) &&& 0x3f).toInt64.toUInt64).toInt64).toInt32).toInt8.toInt32) ((((q.toUInt64 >>> ((32 : Int32) &&& 0x3f).toInt64.toUInt64).toInt64).toInt32).toInt8.toInt32) ((((q.toUInt64 >>> ((40 : Int32) &&& 0x3f).toInt64.toUInt64).toInt64).toInt32).toInt8.toInt32)); have r2 := Int64.le_toInt (f2_6 ((q.toInt32).toInt8.toInt32) ((((q.toUInt64 >>> ((8 : Int32) &&& 0x3f).toInt64.toUInt64).toInt64).toInt32).toInt8.toInt32) ((((q.toUInt64 >>> ((16 : Int32) &&& 0x3f).toInt64.toUInt64).toInt64).toInt32).toInt8.toInt32) ((((q.toUInt64 >>> ((24 : Int32) &&& 0x3f).toInt64.toUInt64).toInt64).toInt32).toInt8.toInt32) ((((q.toUInt64 >>> ((32 : Int32) &&& 0x3f).toInt64.toUInt64).toInt64).toInt32).toInt8.toInt32) ((((q.toUInt64 >>> ((40 : Int32) &&& 0x3f).toInt64.toUInt64).toInt64).toInt32).toInt8.toInt32))
  unfold f2_6 at r1 r2
  have e0 : ((0 : Int64) <<< ((8 : Int32) &&& 0x3f).toInt64) = (0 : Int64) := by decide
  rw [e0] at s0
  have := q.toInt_lt; have := q.le_toInt
  omega

set_option maxHeartbeats 40000000 in
theorem own_law_7 (q : Int64) : (f2_7 ((q.toInt32).toInt8.toInt32) ((((q.toUInt64 >>> ((8 : Int32) &&& 0x3f).toInt64.toUInt64).toInt64).toInt32).toInt8.toInt32) ((((q.toUInt64 >>> ((16 : Int32) &&& 0x3f).toInt64.toUInt64).toInt64).toInt32).toInt8.toInt32) ((((q.toUInt64 >>> ((24 : Int32) &&& 0x3f).toInt64.toUInt64).toInt64).toInt32).toInt8.toInt32) ((((q.toUInt64 >>> ((32 : Int32) &&& 0x3f).toInt64.toUInt64).toInt64).toInt32).toInt8.toInt32) ((((q.toUInt64 >>> ((40 : Int32) &&& 0x3f).toInt64.toUInt64).toInt64).toInt32).toInt8.toInt32) ((((q.toUInt64 >>> ((48 : Int32) &&& 0x3f).toInt64.toUInt64).toInt64).toInt32).toInt8.toInt32)) = (q &&& (72057594037927935 : Int64)) := by
  obtain ⟨U, hU⟩ : ∃ U : Int, U = q.toInt % 18446744073709551616 := ⟨_, rfl⟩
  have s7 : ((0 : Int64).toInt - 0) % 18446744073709551616 = 0 := rfl
  have s6 := own_step _ ((((q.toUInt64 >>> ((48 : Int32) &&& 0x3f).toInt64.toUInt64).toInt64).toInt32).toInt8.toInt32) _ (U / 281474976710656) s7 (own_byte6 q U hU)
  have s5 := own_step _ ((((q.toUInt64 >>> ((40 : Int32) &&& 0x3f).toInt64.toUInt64).toInt64).toInt32).toInt8.toInt32) _ (U / 1099511627776) s6 (own_byte5 q U hU)
  have s4 := own_step _ ((((q.toUInt64 >>> ((32 : Int32) &&& 0x3f).toInt64.toUInt64).toInt64).toInt32).toInt8.toInt32) _ (U / 4294967296) s5 (own_byte4 q U hU)
  have s3 := own_step _ ((((q.toUInt64 >>> ((24 : Int32) &&& 0x3f).toInt64.toUInt64).toInt64).toInt32).toInt8.toInt32) _ (U / 16777216) s4 (own_byte3 q U hU)
  have s2 := own_step _ ((((q.toUInt64 >>> ((16 : Int32) &&& 0x3f).toInt64.toUInt64).toInt64).toInt32).toInt8.toInt32) _ (U / 65536) s3 (own_byte2 q U hU)
  have s1 := own_step _ ((((q.toUInt64 >>> ((8 : Int32) &&& 0x3f).toInt64.toUInt64).toInt64).toInt32).toInt8.toInt32) _ (U / 256) s2 (own_byte1 q U hU)
  have s0 := own_step _ ((q.toInt32).toInt8.toInt32) _ U s1 (own_byte0 q U hU)
  unfold f2_7
  apply Int64.toInt_inj.mp
  have t : (256 * (256 * (256 * (256 * (256 * (256 * (256 * 0 + U / 281474976710656 % 256) + U / 1099511627776 % 256) + U / 4294967296 % 256) + U / 16777216 % 256) + U / 65536 % 256) + U / 256 % 256) + U % 256) = U % 72057594037927936 := by omega
  rw [t] at s0
  have h : (q &&& (72057594037927935 : Int64)).toInt = q.toInt % 72057594037927936 := c_maskL q (72057594037927935 : Int64) 56 (by decide) (by decide)
  rw [h]
  have r1 := Int64.toInt_lt (f2_7 ((q.toInt32).toInt8.toInt32) ((((q.toUInt64 >>> ((8 : Int32) &&& 0x3f).toInt64.toUInt64).toInt64).toInt32).toInt8.toInt32) ((((q.toUInt64 >>> ((16 : Int32) &&& 0x3f).toInt64.toUInt64).toInt64).toInt32).toInt8.toInt32) ((((q.toUInt64 >>> ((24 : Int32) &&& 0x3f).toInt64.toUInt64).toInt64).toInt32).toInt8.toInt32) ((((q.toUInt64 >>> ((32 : Int32) &&& 0x3f).toInt64.toUInt64).toInt64).toInt32).toInt8.toInt32) ((((q.toUInt64 >>> ((40 : Int32) &&& 0x3f).toInt64.toUInt64).toInt64).toInt32).toInt8.toInt32) ((((q.toUInt64 >>> ((48 : Int32) &&& 0x3f).toInt64.toUInt64).toInt64).toInt32).toInt8.toInt32)); have r2 := Int64.le_toInt (f2_7 ((q.toInt32).toInt8.toInt32) ((((q.toUInt64 >>> ((8 : Int32) &&& 0x3f).toInt64.toUInt64).toInt64).toInt32).toInt8.toInt32) ((((q.toUInt64 >>> ((16 : Int32) &&& 0x3f).toInt64.toUInt64).toInt64).toInt32).toInt8.toInt32) ((((q.toUInt64 >>> ((24 : Int32) &&& 0x3f).toInt64.toUInt64).toInt64).toInt32).toInt8.toInt32) ((((q.toUInt64 >>> ((32 : Int32) &&& 0x3f).toInt64.toUInt64).toInt64).toInt32).toInt8.toInt32) ((((q.toUInt64 >>> ((40 : Int32) &&& 0x3f).toInt64.toUInt64).toInt64).toInt32).toInt8.toInt32) ((((q.toUInt64 >>> ((48 : Int32) &&& 0x3f).toInt64.toUInt64).toInt64).toInt32).toInt8.toInt32))
  unfold f2_7 at r1 r2
  have e0 : ((0 : Int64) <<< ((8 : Int32) &&& 0x3f).toInt64) = (0 : Int64) := by decide
  rw [e0] at s0
  have := q.toInt_lt; have := q.le_toInt
  omega

set_option maxHeartbeats 40000000 in
theorem own_law_8 (q : Int64) : (f2_8 ((q.toInt32).toInt8.toInt32) ((((q.toUInt64 >>> ((8 : Int32) &&& 0x3f).toInt64.toUInt64).toInt64).toInt32).toInt8.toInt32) ((((q.toUInt64 >>> ((16 : Int32) &&& 0x3f).toInt64.toUInt64).toInt64).toInt32).toInt8.toInt32) ((((q.toUInt64 >>> ((24 : Int32) &&& 0x3f).toInt64.toUInt64).toInt64).toInt32).toInt8.toInt32) ((((q.toUInt64 >>> ((32 : Int32) &&& 0x3f).toInt64.toUInt64).toInt64).toInt32).toInt8.toInt32) ((((q.toUInt64 >>> ((40 : Int32) &&& 0x3f).toInt64.toUInt64).toInt64).toInt32).toInt8.toInt32) ((((q.toUInt64 >>> ((48 : Int32) &&& 0x3f).toInt64.toUInt64).toInt64).toInt32).toInt8.toInt32) ((((q.toUInt64 >>> ((56 : Int32) &&& 0x3f).toInt64.toUInt64).toInt64).toInt32).toInt8.toInt32)) = q := by
  obtain ⟨U, hU⟩ : ∃ U : Int, U = q.toInt % 18446744073709551616 := ⟨_, rfl⟩
  have s8 : ((0 : Int64).toInt - 0) % 18446744073709551616 = 0 := rfl
  have s7 := own_step _ ((((q.toUInt64 >>> ((56 : Int32) &&& 0x3f).toInt64.toUInt64).toInt64).toInt32).toInt8.toInt32) _ (U / 72057594037927936) s8 (own_byte7 q U hU)
  have s6 := own_step _ ((((q.toUInt64 >>> ((48 : Int32) &&& 0x3f).toInt64.toUInt64).toInt64).toInt32).toInt8.toInt32) _ (U / 281474976710656) s7 (own_byte6 q U hU)
  have s5 := own_step _ ((((q.toUInt64 >>> ((40 : Int32) &&& 0x3f).toInt64.toUInt64).toInt64).toInt32).toInt8.toInt32) _ (U / 1099511627776) s6 (own_byte5 q U hU)
  have s4 := own_step _ ((((q.toUInt64 >>> ((32 : Int32) &&& 0x3f).toInt64.toUInt64).toInt64).toInt32).toInt8.toInt32) _ (U / 4294967296) s5 (own_byte4 q U hU)
  have s3 := own_step _ ((((q.toUInt64 >>> ((24 : Int32) &&& 0x3f).toInt64.toUInt64).toInt64).toInt32).toInt8.toInt32) _ (U / 16777216) s4 (own_byte3 q U hU)
  have s2 := own_step _ ((((q.toUInt64 >>> ((16 : Int32) &&& 0x3f).toInt64.toUInt64).toInt64).toInt32).toInt8.toInt32) _ (U / 65536) s3 (own_byte2 q U hU)
  have s1 := own_step _ ((((q.toUInt64 >>> ((8 : Int32) &&& 0x3f).toInt64.toUInt64).toInt64).toInt32).toInt8.toInt32) _ (U / 256) s2 (own_byte1 q U hU)
  have s0 := own_step _ ((q.toInt32).toInt8.toInt32) _ U s1 (own_byte0 q U hU)
  unfold f2_8
  apply Int64.toInt_inj.mp
  have t : (256 * (256 * (256 * (256 * (256 * (256 * (256 * (256 * 0 + U / 72057594037927936 % 256) + U / 281474976710656 % 256) + U / 1099511627776 % 256) + U / 4294967296 % 256) + U / 16777216 % 256) + U / 65536 % 256) + U / 256 % 256) + U % 256) = U := by omega
  rw [t] at s0
  have r1 := Int64.toInt_lt (f2_8 ((q.toInt32).toInt8.toInt32) ((((q.toUInt64 >>> ((8 : Int32) &&& 0x3f).toInt64.toUInt64).toInt64).toInt32).toInt8.toInt32) ((((q.toUInt64 >>> ((16 : Int32) &&& 0x3f).toInt64.toUInt64).toInt64).toInt32).toInt8.toInt32) ((((q.toUInt64 >>> ((24 : Int32) &&& 0x3f).toInt64.toUInt64).toInt64).toInt32).toInt8.toInt32) ((((q.toUInt64 >>> ((32 : Int32) &&& 0x3f).toInt64.toUInt64).toInt64).toInt32).toInt8.toInt32) ((((q.toUInt64 >>> ((40 : Int32) &&& 0x3f).toInt64.toUInt64).toInt64).toInt32).toInt8.toInt32) ((((q.toUInt64 >>> ((48 : Int32) &&& 0x3f).toInt64.toUInt64).toInt64).toInt32).toInt8.toInt32) ((((q.toUInt64 >>> ((56 : Int32) &&& 0x3f).toInt64.toUInt64).toInt64).toInt32).toInt8.toInt32)); have r2 := Int64.le_toInt (f2_8 ((q.toInt32).toInt8.toInt32) ((((q.toUInt64 >>> ((8 : Int32) &&& 0x3f).toInt64.toUInt64).toInt64).toInt32).toInt8.toInt32) ((((q.toUInt64 >>> ((16 : Int32) &&& 0x3f).toInt64.toUInt64).toInt64).toInt32).toInt8.toInt32) ((((q.toUInt64 >>> ((24 : Int32) &&& 0x3f).toInt64.toUInt64).toInt64).toInt32).toInt8.toInt32) ((((q.toUInt64 >>> ((32 : Int32) &&& 0x3f).toInt64.toUInt64).toInt64).toInt32).toInt8.toInt32) ((((q.toUInt64 >>> ((40 : Int32) &&& 0x3f).toInt64.toUInt64).toInt64).toInt32).toInt8.toInt32) ((((q.toUInt64 >>> ((48 : Int32) &&& 0x3f).toInt64.toUInt64).toInt64).toInt32).toInt8.toInt32) ((((q.toUInt64 >>> ((56 : Int32) &&& 0x3f).toInt64.toUInt64).toInt64).toInt32).toInt8.toInt32))
  unfold f2_8 at r1 r2
  have e0 : ((0 : Int64) <<< ((8 : Int32) &&& 0x3f).toInt64) = (0 : Int64) := by decide
  rw [e0] at s0
  have := q.toInt_lt; have := q.le_toInt
  omega

theorem pn_0 : plainName "com/example/ledgerline/ledgerline/compression/BlockInputStreamLittleEndianPinLaw" = true := by first | (simp [plainName, overriddenIn]; done) | decide +kernel
theorem pd0_0 : parseMethodDescriptor "(JI)[B" = some ⟨[.long, .int], some (.array .byte)⟩ := by decide +kernel
theorem pd0_1 : parseMethodDescriptor "([B)J" = some ⟨[(.array .byte)], some .long⟩ := by decide +kernel
theorem ef_0 (m : MethodId) (x0 : Int64) (x1 : Int32) : entryFrame m #[(.long x0), (.int x1)] maxLocals = mkF m 0 #[vj x0, .second, vi x1, .unset, .unset, .unset, .unset] [] := by first | (simp [entryFrame, mkF, argsToLocals, Value.category, maxLocals]; done) | rfl
def Q0 (Z : State) (q1 : Int64) (p2 : Int32) (h0 : Heap) (n0 : Nat) (v : Option Value) (h : Heap) (L : List Loc) : Prop := v = some (.int (1 : Int32)) ∧ Fr n0 L
set_option maxRecDepth 65536 in
set_option maxHeartbeats 40000000 in
theorem rm0 (l : Launch) (Z : State) (a0 : Array Value) (hw : ∀ d ∈ tables_1, d.before a0 Z = true) (ws : List Jvm.Cond) (q1 : Int64) (p2 : Int32) (h0 : Heap) (n0 : Nat) (Z0 : n0 ≤ h0.size) :
    MetFree l x (head1 (Jvm.Cond.code x code maxLocals ret :: ws) room_1) (fun a U => a = #[(.long q1), (.int p2)] ∧ Z.Warmed39 U.vm ∧ U.heap = h0) (fun _ _ _ _ _ => True) (fun _ U o U' => ∃ v L, o = .returned v ∧ Q0 Z q1 p2 h0 n0 v U'.heap L ∧ FrameEnd U o U' L room_1.cells room_1.slots) := by
  refine MetFree.of_bodySF (plainFor_of_name pn_0) hisR ?_
  intro p e s m args below meth c s₁ Bd hml0 hP hK
  obtain ⟨rfl, hZ, hh⟩ := hP
  have hx := Bd.exec
  have hby := Bd.bytes
  have hml : c.maxLocals = 7 := hml0
  have hown : s.vm.findClass "com/example/ledgerline/ledgerline/compression/BlockInputStreamLittleEndianPinLaw" = some m.cls := findClass_of_methodNamed Bd.named
  have hnm := (name_of_methodNamed Bd.named Bd.method).1
  have X0 : Stand p l e room_1 s m #[(.long q1), (.int p2)] below meth c s₁ [] 0 0 := Stand.of_body Bd
  have e0 : s₁.heap = h0 := by rw [← hh, Bd.state]; rfl
  have N0 := Fr.nil n0
  obtain ⟨F0, hF0⟩ : ∃ F : JFrame, F = entryFrame m #[(.long q1), (.int p2)] maxLocals := ⟨_, rfl⟩
  have pre0 : ∀ t, Steps p.tables e below (s₁.setTop F0) t → Steps p.tables e below (s₁.setTop (entryFrame m #[(.long q1), (.int p2)] maxLocals)) t := fun t k => hF0 ▸ k
  have go0 : Go p e below s₁ F0 s₁ (mkF m 0 #[vj q1, .second, vi p2, .unset, .unset, .unset, .unset] []) := fun t k => castTop (hF0.trans (ef_0 m q1 p2)) k
  have go1 : Go p e below s₁ F0 s₁ (mkF m 8 #[vj q1, .second, vi p2, vi ((p2 &&& (2147483647 : Int32)) % (9 : Int32)), .unset, .unset, .unset] []) := by
    intro t_ k_
    refine go0 t_ ?_
    refine o_iloadN X0 hx (hb hby at_0) rfl ?_
    refine o_ldc X0 hx hown (mvT hZ (own_w hw 0 rfl)) (hb hby at_1) ?_
    refine o_iand X0 hx (hb hby at_3) ?_
    refine o_bipush X0 hx (hb hby at_4) (v := 9) rfl ?_
    refine o_irem X0 hx (hb hby at_6) (by decide) ?_
    refine o_istoreN X0 hx (hb hby at_7) (L' := #[vj q1, .second, vi p2, vi ((p2 &&& (2147483647 : Int32)) % (9 : Int32)), .unset, .unset, .unset]) rfl ?_
    exact k_
  have hcs2 : ((p2 &&& (2147483647 : Int32)) % (9 : Int32)) = (0 : Int32) ∨ ((p2 &&& (2147483647 : Int32)) % (9 : Int32)) = (1 : Int32) ∨ ((p2 &&& (2147483647 : Int32)) % (9 : Int32)) = (2 : Int32) ∨ ((p2 &&& (2147483647 : Int32)) % (9 : Int32)) = (3 : Int32) ∨ ((p2 &&& (2147483647 : Int32)) % (9 : Int32)) = (4 : Int32) ∨ ((p2 &&& (2147483647 : Int32)) % (9 : Int32)) = (5 : Int32) ∨ ((p2 &&& (2147483647 : Int32)) % (9 : Int32)) = (6 : Int32) ∨ ((p2 &&& (2147483647 : Int32)) % (9 : Int32)) = (7 : Int32) ∨ ((p2 &&& (2147483647 : Int32)) % (9 : Int32)) = (8 : Int32) := own_9 _
  rcases hcs2 with hcs2 | hcs2 | hcs2 | hcs2 | hcs2 | hcs2 | hcs2 | hcs2 | hcs2
  · skip
    have go3 : Go p e below s₁ F0 s₁ (mkF m 8 #[vj q1, .second, vi p2, vi (0 : Int32), .unset, .unset, .unset] []) := by rw [hcs2] at go1; exact go1
    have go4 : Go p e below s₁ F0 s₁ (mkF m 10 #[vj q1, .second, vi p2, vi (0 : Int32), .unset, .unset, .unset] [(.int (0 : Int32)), (.long q1)]) := by
      intro t_ k_
      refine go3 t_ ?_
      refine o_lloadN X0 hx (hb hby at_8) rfl ?_
      refine o_iloadN X0 hx (hb hby at_9) rfl ?_
      exact k_
    obtain ⟨_, _, ⟨T5, L5, k5, n5⟩, -, X5, ⟨Lc5, hQ5, l5, y5, z5⟩, st5⟩ := Jvm.LawKit.callS X0 hx (y := y_0) hown (mvT hZ (own_w hw 1 rfl)) (mvT hZ (own_w hw 2 rfl)) (mvT hZ (own_w hw 3 rfl)) (mvT hZ (own_w hw 4 rfl)) (by decide) (backOf (W := 0) (rm1_0 l Z a0 hw [] q1 h0 n0 Z0 ) hZ (own_w hw 4 rfl) (own_w hw 3 rfl) (by decide) (by decide)) (g := (mkF m 10 #[vj q1, .second, vi p2, vi (0 : Int32), .unset, .unset, .unset] [(.int (0 : Int32)), (.long q1)])) rfl (by rw [hml]; rfl) (argsL := [(.long q1), (.int (0 : Int32))]) (rest := []) (lenOf pd0_0 rfl) rfl (by show 2 * 0 + _ ≤ _; exact Nat.le_of_eq rfl) (hb hby at_10) (fun _ _ => ⟨rfl, e0, (by decide : 0 + 1 ≤ _), (by decide : 0 + 0 ≤ _)⟩)
    dsimp only [Pt.U, Pt.locs, Pt.cells, Pt.slots] at X5 l5 y5 z5 st5 hQ5
    subst l5 y5 z5
    obtain ⟨b_5, kb_5, rfl, Nq5, Kc5, hb_5, V_5⟩ := hQ5
    have N5 := Fr.app N0 Nq5
    have g_b_5 : n0 ≤ b_5 := Nat.le_trans Z0 hb_5
    have Z6 : n0 ≤ T5.heap.size := Nat.le_trans Z0 Kc5.1
    have go7 : Go p e below s₁ F0 T5 (mkF m 13 #[vj q1, .second, vi p2, vi (0 : Int32), .unset, .unset, .unset] [(.ref b_5)]) := fun t_ k_ => go4 t_ (st5 t_ k_)
    have go8 : Go p e below s₁ F0 T5 (mkF m 41 #[vj q1, .second, vi p2, vi (0 : Int32), vr b_5, vj (q1 &&& (0 : Int64)), .second] [(.ref b_5)]) := by
      intro t_ k_
      refine go7 t_ ?_
      refine o_astore X5 hx (hb hby at_13) rfl (L' := #[vj q1, .second, vi p2, vi (0 : Int32), vr b_5, .unset, .unset]) rfl ?_
      refine o_iloadN X5 hx (hb hby at_15) rfl ?_
      refine o_bipush X5 hx (hb hby at_16) (v := 8) rfl ?_
      refine o_icmpYes X5 hx (hb hby at_18) (pc' := 27) rfl (by decide) (feq (by decide : ¬ ((0 : Int32) = (8 : Int32)))).2 ?_
      refine o_lloadN X5 hx (hb hby at_27) rfl ?_
      refine o_lconst X5 hx (hb hby at_28) (v := 1) rfl ?_
      refine o_bipush X5 hx (hb hby at_29) (v := 8) rfl ?_
      refine o_iloadN X5 hx (hb hby at_31) rfl ?_
      refine o_imulE X5 hx (hb hby at_32) (v := 0) rfl ?_
      refine o_lshlE X5 hx (hb hby at_33) (v := 1) rfl ?_
      refine o_lconst X5 hx (hb hby at_34) (v := 1) rfl ?_
      refine o_lsubE X5 hx (hb hby at_35) (v := 0) rfl ?_
      refine o_land X5 hx (hb hby at_36) ?_
      refine o_lstore X5 hx (hb hby at_37) (L' := #[vj q1, .second, vi p2, vi (0 : Int32), vr b_5, vj (q1 &&& (0 : Int64)), .second]) rfl ?_
      refine o_aload X5 hx (hb hby at_39) rfl rfl ?_
      exact k_
    obtain ⟨_, _, ⟨T9, L9, k9, n9⟩, -, X9, ⟨Lc9, hQ9, l9, y9, z9⟩, st9⟩ := Jvm.LawKit.callS X5 hx (y := y_1) hown (mvT hZ (own_w hw 6 rfl)) (mvT hZ (own_w hw 7 rfl)) (mvT hZ (own_w hw 8 rfl)) (mvT hZ (own_w hw 9 rfl)) (by decide) (backOf (W := 0) (rm2_0 l Z a0 hw [] b_5 kb_5 (T5.heap) n0 Z6 V_5) hZ (own_w hw 9 rfl) (own_w hw 8 rfl) (by decide) (by decide)) (g := (mkF m 41 #[vj q1, .second, vi p2, vi (0 : Int32), vr b_5, vj (q1 &&& (0 : Int64)), .second] [(.ref b_5)])) rfl (by rw [hml]; rfl) (argsL := [(.ref b_5)]) (rest := []) (lenOf pd0_1 rfl) rfl (by show 2 * 0 + _ ≤ _; exact Nat.le_of_eq rfl) (hb hby at_41) (fun _ _ => ⟨rfl, rfl, (by decide : 1 + 0 ≤ _), (by decide : 0 + 0 ≤ _)⟩)
    dsimp only [Pt.U, Pt.locs, Pt.cells, Pt.slots] at X9 l9 y9 z9 st9 hQ9
    subst l9 y9 z9
    obtain ⟨rfl, Nq9, eh9⟩ := hQ9
    have N9 := Fr.app N5 Nq9
    have go10 : Go p e below s₁ F0 T9 (mkF m 44 #[vj q1, .second, vi p2, vi (0 : Int32), vr b_5, vj (q1 &&& (0 : Int64)), .second] [(.long (f2_0 ))]) := fun t_ k_ => go8 t_ (st9 t_ k_)
    have go12 : Go p e below s₁ F0 T9 (mkF m 47 #[vj q1, .second, vi p2, vi (0 : Int32), vr b_5, vj (q1 &&& (0 : Int64)), .second] [(.int (lcmpW (f2_0 ) (q1 &&& (0 : Int64))))]) := by
      intro t_ k_
      refine go10 t_ ?_
      refine o_lload X9 hx (hb hby at_44) rfl ?_
      refine o_lcmp X9 hx (hb hby at_46) ?_
      exact k_
    have hd11 : (f2_0 ) = (q1 &&& (0 : Int64)) := own_law_0 _
    have go13 : Go p e below s₁ F0 T9 (mkF m 55 #[vj q1, .second, vi p2, vi (0 : Int32), vr b_5, vj (q1 &&& (0 : Int64)), .second] [(.int (1 : Int32))]) := by
      intro t_ k_
      refine go12 t_ ?_
      refine o_ifNo X9 hx (hb hby at_47) ((if0 _ _).trans (teq ((lw_eq _ _).mpr hd11)).2) ?_
      refine o_iconst X9 hx (hb hby at_50) (v := 1) rfl ?_
      refine o_goto X9 hx (hb hby at_51) (pc' := 55) rfl (by decide) ?_
      exact k_
    obtain ⟨fs, hr, hrun, hended, hW, hsame⟩ := X9.leave (v := some (.int (1 : Int32))) (fun h => by rw [Bd.returns] at h; cases h)
    refine ⟨_, _, pre0 _ (go13 _ ?_), hrun, hended, _, _, rfl, ?_, ⟨_, rfl⟩, hW, hsame.mono (by decide) (by decide)⟩
    · skip
      exact retN X9 hx (t := .boolean) Bd.returns (by simp) (hb hby at_55) hr
    · show Q0 Z q1 p2 h0 n0 _ T9.heap _
      rw [eh9]
      exact ⟨rfl, N9⟩
  · skip
    have go14 : Go p e below s₁ F0 s₁ (mkF m 8 #[vj q1, .second, vi p2, vi (1 : Int32), .unset, .unset, .unset] []) := by rw [hcs2] at go1; exact go1
    have go15 : Go p e below s₁ F0 s₁ (mkF m 10 #[vj q1, .second, vi p2, vi (1 : Int32), .unset, .unset, .unset] [(.int (1 : Int32)), (.long q1)]) := by
      intro t_ k_
      refine go14 t_ ?_
      refine o_lloadN X0 hx (hb hby at_8) rfl ?_
      refine o_iloadN X0 hx (hb hby at_9) rfl ?_
      exact k_
    obtain ⟨_, _, ⟨T16, L16, k16, n16⟩, -, X16, ⟨Lc16, hQ16, l16, y16, z16⟩, st16⟩ := Jvm.LawKit.callS X0 hx (y := y_0) hown (mvT hZ (own_w hw 1 rfl)) (mvT hZ (own_w hw 2 rfl)) (mvT hZ (own_w hw 3 rfl)) (mvT hZ (own_w hw 4 rfl)) (by decide) (backOf (W := 0) (rm1_1 l Z a0 hw [] q1 h0 n0 Z0 ) hZ (own_w hw 4 rfl) (own_w hw 3 rfl) (by decide) (by decide)) (g := (mkF m 10 #[vj q1, .second, vi p2, vi (1 : Int32), .unset, .unset, .unset] [(.int (1 : Int32)), (.long q1)])) rfl (by rw [hml]; rfl) (argsL := [(.long q1), (.int (1 : Int32))]) (rest := []) (lenOf pd0_0 rfl) rfl (by show 2 * 0 + _ ≤ _; exact Nat.le_of_eq rfl) (hb hby at_10) (fun _ _ => ⟨rfl, e0, (by decide : 0 + 1 ≤ _), (by decide : 0 + 1 ≤ _)⟩)
    dsimp only [Pt.U, Pt.locs, Pt.cells, Pt.slots] at X16 l16 y16 z16 st16 hQ16
    subst l16 y16 z16
    obtain ⟨b_16, kb_16, rfl, Nq16, Kc16, hb_16, V_16⟩ := hQ16
    have N16 := Fr.app N0 Nq16
    have g_b_16 : n0 ≤ b_16 := Nat.le_trans Z0 hb_16
    have Z17 : n0 ≤ T16.heap.size := Nat.le_trans Z0 Kc16.1
    have go18 : Go p e below s₁ F0 T16 (mkF m 13 #[vj q1, .second, vi p2, vi (1 : Int32), .unset, .unset, .unset] [(.ref b_16)]) := fun t_ k_ => go15 t_ (st16 t_ k_)
    have go19 : Go p e below s₁ F0 T16 (mkF m 41 #[vj q1, .second, vi p2, vi (1 : Int32), vr b_16, vj (q1 &&& (255 : Int64)), .second] [(.ref b_16)]) := by
      intro t_ k_
      refine go18 t_ ?_
      refine o_astore X16 hx (hb hby at_13) rfl (L' := #[vj q1, .second, vi p2, vi (1 : Int32), vr b_16, .unset, .unset]) rfl ?_
      refine o_iloadN X16 hx (hb hby at_15) rfl ?_
      refine o_bipush X16 hx (hb hby at_16) (v := 8) rfl ?_
      refine o_icmpYes X16 hx (hb hby at_18) (pc' := 27) rfl (by decide) (feq (by decide : ¬ ((1 : Int32) = (8 : Int32)))).2 ?_
      refine o_lloadN X16 hx (hb hby at_27) rfl ?_
      refine o_lconst X16 hx (hb hby at_28) (v := 1) rfl ?_
      refine o_bipush X16 hx (hb hby at_29) (v := 8) rfl ?_
      refine o_iloadN X16 hx (hb hby at_31) rfl ?_
      refine o_imulE X16 hx (hb hby at_32) (v := 8) rfl ?_
      refine o_lshlE X16 hx (hb hby at_33) (v := 256) rfl ?_
      refine o_lconst X16 hx (hb hby at_34) (v := 1) rfl ?_
      refine o_lsubE X16 hx (hb hby at_35) (v := 255) rfl ?_
      refine o_land X16 hx (hb hby at_36) ?_
      refine o_lstore X16 hx (hb hby at_37) (L' := #[vj q1, .second, vi p2, vi (1 : Int32), vr b_16, vj (q1 &&& (255 : Int64)), .second]) rfl ?_
      refine o_aload X16 hx (hb hby at_39) rfl rfl ?_
      exact k_
    obtain ⟨_, _, ⟨T20, L20, k20, n20⟩, -, X20, ⟨Lc20, hQ20, l20, y20, z20⟩, st20⟩ := Jvm.LawKit.callS X16 hx (y := y_1) hown (mvT hZ (own_w hw 6 rfl)) (mvT hZ (own_w hw 7 rfl)) (mvT hZ (own_w hw 8 rfl)) (mvT hZ (own_w hw 9 rfl)) (by decide) (backOf (W := 0) (rm2_1 l Z a0 hw [] b_16 kb_16 ((q1.toInt32).toInt8.toInt32) (T16.heap) n0 Z17 V_16) hZ (own_w hw 9 rfl) (own_w hw 8 rfl) (by decide) (by decide)) (g := (mkF m 41 #[vj q1, .second, vi p2, vi (1 : Int32), vr b_16, vj (q1 &&& (255 : Int64)), .second] [(.ref b_16)])) rfl (by rw [hml]; rfl) (argsL := [(.ref b_16)]) (rest := []) (lenOf pd0_1 rfl) rfl (by show 2 * 0 + _ ≤ _; exact Nat.le_of_eq rfl) (hb hby at_41) (fun _ _ => ⟨rfl, rfl, (by decide : 1 + 0 ≤ _), (by decide : 1 + 0 ≤ _)⟩)
    dsimp only [Pt.U, Pt.locs, Pt.cells, Pt.slots] at X20 l20 y20 z20 st20 hQ20
    subst l20 y20 z20
    obtain ⟨rfl, Nq20, eh20⟩ := hQ20
    have N20 := Fr.app N16 Nq20
    have go21 : Go p e below s₁ F0 T20 (mkF m 44 #[vj q1, .second, vi p2, vi (1 : Int32), vr b_16, vj (q1 &&& (255 : Int64)), .second] [(.long (f2_1 ((q1.toInt32).toInt8.toInt32)))]) := fun t_ k_ => go19 t_ (st20 t_ k_)
    have go23 : Go p e below s₁ F0 T20 (mkF m 47 #[vj q1, .second, vi p2, vi (1 : Int32), vr b_16, vj (q1 &&& (255 : Int64)), .second] [(.int (lcmpW (f2_1 ((q1.toInt32).toInt8.toInt32)) (q1 &&& (255 : Int64))))]) := by
      intro t_ k_
      refine go21 t_ ?_
      refine o_lload X20 hx (hb hby at_44) rfl ?_
      refine o_lcmp X20 hx (hb hby at_46) ?_
      exact k_
    have hd22 : (f2_1 ((q1.toInt32).toInt8.toInt32)) = (q1 &&& (255 : Int64)) := own_law_1 _
    have go24 : Go p e below s₁ F0 T20 (mkF m 55 #[vj q1, .second, vi p2, vi (1 : Int32), vr b_16, vj (q1 &&& (255 : Int64)), .second] [(.int (1 : Int32))]) := by
      intro t_ k_
      refine go23 t_ ?_
      refine o_ifNo X20 hx (hb hby at_47) ((if0 _ _).trans (teq ((lw_eq _ _).mpr hd22)).2) ?_
      refine o_iconst X20 hx (hb hby at_50) (v := 1) rfl ?_
      refine o_goto X20 hx (hb hby at_51) (pc' := 55) rfl (by decide) ?_
      exact k_
    obtain ⟨fs, hr, hrun, hended, hW, hsame⟩ := X20.leave (v := some (.int (1 : Int32))) (fun h => by rw [Bd.returns] at h; cases h)
    refine ⟨_, _, pre0 _ (go24 _ ?_), hrun, hended, _, _, rfl, ?_, ⟨_, rfl⟩, hW, hsame.mono (by decide) (by decide)⟩
    · skip
      exact retN X20 hx (t := .boolean) Bd.returns (by simp) (hb hby at_55) hr
    · show Q0 Z q1 p2 h0 n0 _ T20.heap _
      rw [eh20]
      exact ⟨rfl, N20⟩
  · skip
    have go25 : Go p e below s₁ F0 s₁ (mkF m 8 #[vj q1, .second, vi p2, vi (2 : Int32), .unset, .unset, .unset] []) := by rw [hcs2] at go1; exact go1
    have go26 : Go p e below s₁ F0 s₁ (mkF m 10 #[vj q1, .second, vi p2, vi (2 : Int32), .unset, .unset, .unset] [(.int (2 : Int32)), (.long q1)]) := by
      intro t_ k_
      refine go25 t_ ?_
      refine o_lloadN X0 hx (hb hby at_8) rfl ?_
      refine o_iloadN X0 hx (hb hby at_9) rfl ?_
      exact k_
    obtain ⟨_, _, ⟨T27, L27, k27, n27⟩, -, X27, ⟨Lc27, hQ27, l27, y27, z27⟩, st27⟩ := Jvm.LawKit.callS X0 hx (y := y_0) hown (mvT hZ (own_w hw 1 rfl)) (mvT hZ (own_w hw 2 rfl)) (mvT hZ (own_w hw 3 rfl)) (mvT hZ (own_w hw 4 rfl)) (by decide) (backOf (W := 0) (rm1_2 l Z a0 hw [] q1 h0 n0 Z0 ) hZ (own_w hw 4 rfl) (own_w hw 3 rfl) (by decide) (by decide)) (g := (mkF m 10 #[vj q1, .second, vi p2, vi (2 : Int32), .unset, .unset, .unset] [(.int (2 : Int32)), (.long q1)])) rfl (by rw [hml]; rfl) (argsL := [(.long q1), (.int (2 : Int32))]) (rest := []) (lenOf pd0_0 rfl) rfl (by show 2 * 0 + _ ≤ _; exact Nat.le_of_eq rfl) (hb hby at_10) (fun _ _ => ⟨rfl, e0, (by decide : 0 + 1 ≤ _), (by decide : 0 + 2 ≤ _)⟩)
    dsimp only [Pt.U, Pt.locs, Pt.cells, Pt.slots] at X27 l27 y27 z27 st27 hQ27
    subst l27 y27 z27
    obtain ⟨b_27, kb_27, rfl, Nq27, Kc27, hb_27, V_27⟩ := hQ27
    have N27 := Fr.app N0 Nq27
    have g_b_27 : n0 ≤ b_27 := Nat.le_trans Z0 hb_27
    have Z28 : n0 ≤ T27.heap.size := Nat.le_trans Z0 Kc27.1
    have go29 : Go p e below s₁ F0 T27 (mkF m 13 #[vj q1, .second, vi p2, vi (2 : Int32), .unset, .unset, .unset] [(.ref b_27)]) := fun t_ k_ => go26 t_ (st27 t_ k_)
    have go30 : Go p e below s₁ F0 T27 (mkF m 41 #[vj q1, .second, vi p2, vi (2 : Int32), vr b_27, vj (q1 &&& (65535 : Int64)), .second] [(.ref b_27)]) := by
      intro t_ k_
      refine go29 t_ ?_
      refine o_astore X27 hx (hb hby at_13) rfl (L' := #[vj q1, .second, vi p2, vi (2 : Int32), vr b_27, .unset, .unset]) rfl ?_
      refine o_iloadN X27 hx (hb hby at_15) rfl ?_
      refine o_bipush X27 hx (hb hby at_16) (v := 8) rfl ?_
      refine o_icmpYes X27 hx (hb hby at_18) (pc' := 27) rfl (by decide) (feq (by decide : ¬ ((2 : Int32) = (8 : Int32)))).2 ?_
      refine o_lloadN X27 hx (hb hby at_27) rfl ?_
      refine o_lconst X27 hx (hb hby at_28) (v := 1) rfl ?_
      refine o_bipush X27 hx (hb hby at_29) (v := 8) rfl ?_
      refine o_iloadN X27 hx (hb hby at_31) rfl ?_
      refine o_imulE X27 hx (hb hby at_32) (v := 16) rfl ?_
      refine o_lshlE X27 hx (hb hby at_33) (v := 65536) rfl ?_
      refine o_lconst X27 hx (hb hby at_34) (v := 1) rfl ?_
      refine o_lsubE X27 hx (hb hby at_35) (v := 65535) rfl ?_
      refine o_land X27 hx (hb hby at_36) ?_
      refine o_lstore X27 hx (hb hby at_37) (L' := #[vj q1, .second, vi p2, vi (2 : Int32), vr b_27, vj (q1 &&& (65535 : Int64)), .second]) rfl ?_
      refine o_aload X27 hx (hb hby at_39) rfl rfl ?_
      exact k_
    obtain ⟨_, _, ⟨T31, L31, k31, n31⟩, -, X31, ⟨Lc31, hQ31, l31, y31, z31⟩, st31⟩ := Jvm.LawKit.callS X27 hx (y := y_1) hown (mvT hZ (own_w hw 6 rfl)) (mvT hZ (own_w hw 7 rfl)) (mvT hZ (own_w hw 8 rfl)) (mvT hZ (own_w hw 9 rfl)) (by decide) (backOf (W := 0) (rm2_2 l Z a0 hw [] b_27 kb_27 ((q1.toInt32).toInt8.toInt32) ((((q1.toUInt64 >>> ((8 : Int32) &&& 0x3f).toInt64.toUInt64).toInt64).toInt32).toInt8.toInt32) (T27.heap) n0 Z28 V_27) hZ (own_w hw 9 rfl) (own_w hw 8 rfl) (by decide) (by decide)) (g := (mkF m 41 #[vj q1, .second, vi p2, vi (2 : Int32), vr b_27, vj (q1 &&& (65535 : Int64)), .second] [(.ref b_27)])) rfl (by rw [hml]; rfl) (argsL := [(.ref b_27)]) (rest := []) (lenOf pd0_1 rfl) rfl (by show 2 * 0 + _ ≤ _; exact Nat.le_of_eq rfl) (hb hby at_41) (fun _ _ => ⟨rfl, rfl, (by decide : 1 + 0 ≤ _), (by decide : 2 + 0 ≤ _)⟩)
    dsimp only [Pt.U, Pt.locs, Pt.cells, Pt.slots] at X31 l31 y31 z31 st31 hQ31
    subst l31 y31 z31
    obtain ⟨rfl, Nq31, eh31⟩ := hQ31
    have N31 := Fr.app N27 Nq31
    have go32 : Go p e below s₁ F0 T31 (mkF m 44 #[vj q1, .second, vi p2, vi (2 : Int32), vr b_27, vj (q1 &&& (65535 : Int64)), .second] [(.long (f2_2 ((q1.toInt32).toInt8.toInt32) ((((q1.toUInt64 >>> ((8 : Int32) &&& 0x3f).toInt64.toUInt64).toInt64).toInt32).toInt8.toInt32)))]) := fun t_ k_ => go30 t_ (st31 t_ k_)
    have go34 : Go p e below s₁ F0 T31 (mkF m 47 #[vj q1, .second, vi p2, vi (2 : Int32), vr b_27, vj (q1 &&& (65535 : Int64)), .second] [(.int (lcmpW (f2_2 ((q1.toInt32).toInt8.toInt32) ((((q1.toUInt64 >>> ((8 : Int32) &&& 0x3f).toInt64.toUInt64).toInt64).toInt32).toInt8.toInt32)) (q1 &&& (65535 : Int64))))]) := by
      intro t_ k_
      refine go32 t_ ?_
      refine o_lload X31 hx (hb hby at_44) rfl ?_
      refine o_lcmp X31 hx (hb hby at_46) ?_
      exact k_
    have hd33 : (f2_2 ((q1.toInt32).toInt8.toInt32) ((((q1.toUInt64 >>> ((8 : Int32) &&& 0x3f).toInt64.toUInt64).toInt64).toInt32).toInt8.toInt32)) = (q1 &&& (65535 : Int64)) := own_law_2 _
    have go35 : Go p e below s₁ F0 T31 (mkF m 55 #[vj q1, .second, vi p2, vi (2 : Int32), vr b_27, vj (q1 &&& (65535 : Int64)), .second] [(.int (1 : Int32))]) := by
      intro t_ k_
      refine go34 t_ ?_
      refine o_ifNo X31 hx (hb hby at_47) ((if0 _ _).trans (teq ((lw_eq _ _).mpr hd33)).2) ?_
      refine o_iconst X31 hx (hb hby at_50) (v := 1) rfl ?_
      refine o_goto X31 hx (hb hby at_51) (pc' := 55) rfl (by decide) ?_
      exact k_
    obtain ⟨fs, hr, hrun, hended, hW, hsame⟩ := X31.leave (v := some (.int (1 : Int32))) (fun h => by rw [Bd.returns] at h; cases h)
    refine ⟨_, _, pre0 _ (go35 _ ?_), hrun, hended, _, _, rfl, ?_, ⟨_, rfl⟩, hW, hsame.mono (by decide) (by decide)⟩
    · skip
      exact retN X31 hx (t := .boolean) Bd.returns (by simp) (hb hby at_55) hr
    · show Q0 Z q1 p2 h0 n0 _ T31.heap _
      rw [eh31]
      exact ⟨rfl, N31⟩
  · skip
    have go36 : Go p e below s₁ F0 s₁ (mkF m 8 #[vj q1, .second, vi p2, vi (3 : Int32), .unset, .unset, .unset] []) := by rw [hcs2] at go1; exact go1
    have go37 : Go p e below s₁ F0 s₁ (mkF m 10 #[vj q1, .second, vi p2, vi (3 : Int32), .unset, .unset, .unset] [(.int (3 : Int32)), (.long q1)]) := by
      intro t_ k_
      refine go36 t_ ?_
      refine o_lloadN X0 hx (hb hby at_8) rfl ?_
      refine o_iloadN X0 hx (hb hby at_9) rfl ?_
      exact k_
    obtain ⟨_, _, ⟨T38, L38, k38, n38⟩, -, X38, ⟨Lc38, hQ38, l38, y38, z38⟩, st38⟩ := Jvm.LawKit.callS X0 hx (y := y_0) hown (mvT hZ (own_w hw 1 rfl)) (mvT hZ (own_w hw 2 rfl)) (mvT hZ (own_w hw 3 rfl)) (mvT hZ (own_w hw 4 rfl)) (by decide) (backOf (W := 0) (rm1_3 l Z a0 hw [] q1 h0 n0 Z0 ) hZ (own_w hw 4 rfl) (own_w hw 3 rfl) (by decide) (by decide)) (g := (mkF m 10 #[vj q1, .second, vi p2, vi (3 : Int32), .unset, .unset, .unset] [(.int (3 : Int32)), (.long q1)])) rfl (by rw [hml]; rfl) (argsL := [(.long q1), (.int (3 : Int32))]) (rest := []) (lenOf pd0_0 rfl) rfl (by show 2 * 0 + _ ≤ _; exact Nat.le_of_eq rfl) (hb hby at_10) (fun _ _ => ⟨rfl, e0, (by decide : 0 + 1 ≤ _), (by decide : 0 + 3 ≤ _)⟩)
    dsimp only [Pt.U, Pt.locs, Pt.cells, Pt.slots] at X38 l38 y38 z38 st38 hQ38
    subst l38 y38 z38
    obtain ⟨b_38, kb_38, rfl, Nq38, Kc38, hb_38, V_38⟩ := hQ38
    have N38 := Fr.app N0 Nq38
    have g_b_38 : n0 ≤ b_38 := Nat.le_trans Z0 hb_38
    have Z39 : n0 ≤ T38.heap.size := Nat.le_trans Z0 Kc38.1
    have go40 : Go p e below s₁ F0 T38 (mkF m 13 #[vj q1, .second, vi p2, vi (3 : Int32), .unset, .unset, .unset] [(.ref b_38)]) := fun t_ k_ => go37 t_ (st38 t_ k_)
    have go41 : Go p e below s₁ F0 T38 (mkF m 41 #[vj q1, .second, vi p2, vi (3 : Int32), vr b_38, vj (q1 &&& (16777215 : Int64)), .second] [(.ref b_38)]) := by
      intro t_ k_
      refine go40 t_ ?_
      refine o_astore X38 hx (hb hby at_13) rfl (L' := #[vj q1, .second, vi p2, vi (3 : Int32), vr b_38, .unset, .unset]) rfl ?_
      refine o_iloadN X38 hx (hb hby at_15) rfl ?_
      refine o_bipush X38 hx (hb hby at_16) (v := 8) rfl ?_
      refine o_icmpYes X38 hx (hb hby at_18) (pc' := 27) rfl (by decide) (feq (by decide : ¬ ((3 : Int32) = (8 : Int32)))).2 ?_
      refine o_lloadN X38 hx (hb hby at_27) rfl ?_
      refine o_lconst X38 hx (hb hby at_28) (v := 1) rfl ?_
      refine o_bipush X38 hx (hb hby at_29) (v := 8) rfl ?_
      refine o_iloadN X38 hx (hb hby at_31) rfl ?_
      refine o_imulE X38 hx (hb hby at_32) (v := 24) rfl ?_
      refine o_lshlE X38 hx (hb hby at_33) (v := 16777216) rfl ?_
      refine o_lconst X38 hx (hb hby at_34) (v := 1) rfl ?_
      refine o_lsubE X38 hx (hb hby at_35) (v := 16777215) rfl ?_
      refine o_land X38 hx (hb hby at_36) ?_
      refine o_lstore X38 hx (hb hby at_37) (L' := #[vj q1, .second, vi p2, vi (3 : Int32), vr b_38, vj (q1 &&& (16777215 : Int64)), .second]) rfl ?_
      refine o_aload X38 hx (hb hby at_39) rfl rfl ?_
      exact k_
    obtain ⟨_, _, ⟨T42, L42, k42, n42⟩, -, X42, ⟨Lc42, hQ42, l42, y42, z42⟩, st42⟩ := Jvm.LawKit.callS X38 hx (y := y_1) hown (mvT hZ (own_w hw 6 rfl)) (mvT hZ (own_w hw 7 rfl)) (mvT hZ (own_w hw 8 rfl)) (mvT hZ (own_w hw 9 rfl)) (by decide) (backOf (W := 0) (rm2_3 l Z a0 hw [] b_38 kb_38 ((q1.toInt32).toInt8.toInt32) ((((q1.toUInt64 >>> ((8 : Int32) &&& 0x3f).toInt64.toUInt64).toInt64).toInt32).toInt8.toInt32) ((((q1.toUInt64 >>> ((16 : Int32) &&& 0x3f).toInt64.toUInt64).toInt64).toInt32).toInt8.toInt32) (T38.heap) n0 Z39 V_38) hZ (own_w hw 9 rfl) (own_w hw 8 rfl) (by decide) (by decide)) (g := (mkF m 41 #[vj q1, .second, vi p2, vi (3 : Int32), vr b_38, vj (q1 &&& (16777215 : Int64)), .second] [(.ref b_38)])) rfl (by rw [hml]; rfl) (argsL := [(.ref b_38)]) (rest := []) (lenOf pd0_1 rfl) rfl (by show 2 * 0 + _ ≤ _; exact Nat.le_of_eq rfl) (hb hby at_41) (fun _ _ => ⟨rfl, rfl, (by decide : 1 + 0 ≤ _), (by decide : 3 + 0 ≤ _)⟩)
    dsimp only [Pt.U, Pt.locs, Pt.cells, Pt.slots] at X42 l42 y42 z42 st42 hQ42
    subst l42 y42 z42
    obtain ⟨rfl, Nq42, eh42⟩ := hQ42
    have N42 := Fr.app N38 Nq42
    have go43 : Go p e below s₁ F0 T42 (mkF m 44 #[vj q1, .second, vi p2, vi (3 : Int32), vr b_38, vj (q1 &&& (16777215 : Int64)), .second] [(.long (f2_3 ((q1.toInt32).toInt8.toInt32) ((((q1.toUInt64 >>> ((8 : Int32) &&& 0x3f).toInt64.toUInt64).toInt64).toInt32).toInt8.toInt32) ((((q1.toUInt64 >>> ((16 : Int32) &&& 0x3f).toInt64.toUInt64).toInt64).toInt32).toInt8.toInt32)))]) := fun t_ k_ => go41 t_ (st42 t_ k_)
    have go45 : Go p e below s₁ F0 T42 (mkF m 47 #[vj q1, .second, vi p2, vi (3 : Int32), vr b_38, vj (q1 &&& (16777215 : Int64)), .second] [(.int (lcmpW (f2_3 ((q1.toInt32).toInt8.toInt32) ((((q1.toUInt64 >>> ((8 : Int32) &&& 0x3f).toInt64.toUInt64).toInt64).toInt32).toInt8.toInt32) ((((q1.toUInt64 >>> ((16 : Int32) &&& 0x3f).toInt64.toUInt64).toInt64).toInt32).toInt8.toInt32)) (q1 &&& (16777215 : Int64))))]) := by
      intro t_ k_
      refine go43 t_ ?_
      refine o_lload X42 hx (hb hby at_44) rfl ?_
      refine o_lcmp X42 hx (hb hby at_46) ?_
      exact k_
    have hd44 : (f2_3 ((q1.toInt32).toInt8.toInt32) ((((q1.toUInt64 >>> ((8 : Int32) &&& 0x3f).toInt64.toUInt64).toInt64).toInt32).toInt8.toInt32) ((((q1.toUInt64 >>> ((16 : Int32) &&& 0x3f).toInt64.toUInt64).toInt64).toInt32).toInt8.toInt32)) = (q1 &&& (16777215 : Int64)) := own_law_3 _
    have go46 : Go p e below s₁ F0 T42 (mkF m 55 #[vj q1, .second, vi p2, vi (3 : Int32), vr b_38, vj (q1 &&& (16777215 : Int64)), .second] [(.int (1 : Int32))]) := by
      intro t_ k_
      refine go45 t_ ?_
      refine o_ifNo X42 hx (hb hby at_47) ((if0 _ _).trans (teq ((lw_eq _ _).mpr hd44)).2) ?_
      refine o_iconst X42 hx (hb hby at_50) (v := 1) rfl ?_
      refine o_goto X42 hx (hb hby at_51) (pc' := 55) rfl (by decide) ?_
      exact k_
    obtain ⟨fs, hr, hrun, hended, hW, hsame⟩ := X42.leave (v := some (.int (1 : Int32))) (fun h => by rw [Bd.returns] at h; cases h)
    refine ⟨_, _, pre0 _ (go46 _ ?_), hrun, hended, _, _, rfl, ?_, ⟨_, rfl⟩, hW, hsame.mono (by decide) (by decide)⟩
    · skip
      exact retN X42 hx (t := .boolean) Bd.returns (by simp) (hb hby at_55) hr
    · show Q0 Z q1 p2 h0 n0 _ T42.heap _
      rw [eh42]
      exact ⟨rfl, N42⟩
  · skip
    have go47 : Go p e below s₁ F0 s₁ (mkF m 8 #[vj q1, .second, vi p2, vi (4 : Int32), .unset, .unset, .unset] []) := by rw [hcs2] at go1; exact go1
    have go48 : Go p e below s₁ F0 s₁ (mkF m 10 #[vj q1, .second, vi p2, vi (4 : Int32), .unset, .unset, .unset] [(.int (4 : Int32)), (.long q1)]) := by
      intro t_ k_
      refine go47 t_ ?_
      refine o_lloadN X0 hx (hb hby at_8) rfl ?_
      refine o_iloadN X0 hx (hb hby at_9) rfl ?_
      exact k_
    obtain ⟨_, _, ⟨T49, L49, k49, n49⟩, -, X49, ⟨Lc49, hQ49, l49, y49, z49⟩, st49⟩ := Jvm.LawKit.callS X0 hx (y := y_0) hown (mvT hZ (own_w hw 1 rfl)) (mvT hZ (own_w hw 2 rfl)) (mvT hZ (own_w hw 3 rfl)) (mvT hZ (own_w hw 4 rfl)) (by decide) (backOf (W := 0) (rm1_4 l Z a0 hw [] q1 h0 n0 Z0 ) hZ (own_w hw 4 rfl) (own_w hw 3 rfl) (by decide) (by decide)) (g := (mkF m 10 #[vj q1, .second, vi p2, vi (4 : Int32), .unset, .unset, .unset] [(.int (4 : Int32)), (.long q1)])) rfl (by rw [hml]; rfl) (argsL := [(.long q1), (.int (4 : Int32))]) (rest := []) (lenOf pd0_0 rfl) rfl (by show 2 * 0 + _ ≤ _; exact Nat.le_of_eq rfl) (hb hby at_10) (fun _ _ => ⟨rfl, e0, (by decide : 0 + 1 ≤ _), (by decide : 0 + 4 ≤ _)⟩)
    dsimp only [Pt.U, Pt.locs, Pt.cells, Pt.slots] at X49 l49 y49 z49 st49 hQ49
    subst l49 y49 z49
    obtain ⟨b_49, kb_49, rfl, Nq49, Kc49, hb_49, V_49⟩ := hQ49
    have N49 := Fr.app N0 Nq49
    have g_b_49 : n0 ≤ b_49 := Nat.le_trans Z0 hb_49
    have Z50 : n0 ≤ T49.heap.size := Nat.le_trans Z0 Kc49.1
    have go51 : Go p e below s₁ F0 T49 (mkF m 13 #[vj q1, .second, vi p2, vi (4 : Int32), .unset, .unset, .unset] [(.ref b_49)]) := fun t_ k_ => go48 t_ (st49 t_ k_)
    have go52 : Go p e below s₁ F0 T49 (mkF m 41 #[vj q1, .second, vi p2, vi (4 : Int32), vr b_49, vj (q1 &&& (4294967295 : Int64)), .second] [(.ref b_49)]) := by
      intro t_ k_
      refine go51 t_ ?_
      refine o_astore X49 hx (hb hby at_13) rfl (L' := #[vj q1, .second, vi p2, vi (4 : Int32), vr b_49, .unset, .unset]) rfl ?_
      refine o_iloadN X49 hx (hb hby at_15) rfl ?_
      refine o_bipush X49 hx (hb hby at_16) (v := 8) rfl ?_
      refine o_icmpYes X49 hx (hb hby at_18) (pc' := 27) rfl (by decide) (feq (by decide : ¬ ((4 : Int32) = (8 : Int32)))).2 ?_
      refine o_lloadN X49 hx (hb hby at_27) rfl ?_
      refine o_lconst X49 hx (hb hby at_28) (v := 1) rfl ?_
      refine o_bipush X49 hx (hb hby at_29) (v := 8) rfl ?_
      refine o_iloadN X49 hx (hb hby at_31) rfl ?_
      refine o_imulE X49 hx (hb hby at_32) (v := 32) rfl ?_
      refine o_lshlE X49 hx (hb hby at_33) (v := 4294967296) rfl ?_
      refine o_lconst X49 hx (hb hby at_34) (v := 1) rfl ?_
      refine o_lsubE X49 hx (hb hby at_35) (v := 4294967295) rfl ?_
      refine o_land X49 hx (hb hby at_36) ?_
      refine o_lstore X49 hx (hb hby at_37) (L' := #[vj q1, .second, vi p2, vi (4 : Int32), vr b_49, vj (q1 &&& (4294967295 : Int64)), .second]) rfl ?_
      refine o_aload X49 hx (hb hby at_39) rfl rfl ?_
      exact k_
    obtain ⟨_, _, ⟨T53, L53, k53, n53⟩, -, X53, ⟨Lc53, hQ53, l53, y53, z53⟩, st53⟩ := Jvm.LawKit.callS X49 hx (y := y_1) hown (mvT hZ (own_w hw 6 rfl)) (mvT hZ (own_w hw 7 rfl)) (mvT hZ (own_w hw 8 rfl)) (mvT hZ (own_w hw 9 rfl)) (by decide) (backOf (W := 0) (rm2_4 l Z a0 hw [] b_49 kb_49 ((q1.toInt32).toInt8.toInt32) ((((q1.toUInt64 >>> ((8 : Int32) &&& 0x3f).toInt64.toUInt64).toInt64).toInt32).toInt8.toInt32) ((((q1.toUInt64 >>> ((16 : Int32) &&& 0x3f).toInt64.toUInt64).toInt64).toInt32).toInt8.toInt32) ((((q1.toUInt64 >>> ((24 : Int32) &&& 0x3f).toInt64.toUInt64).toInt64).toInt32).toInt8.toInt32) (T49.heap) n0 Z50 V_49) hZ (own_w hw 9 rfl) (own_w hw 8 rfl) (by decide) (by decide)) (g := (mkF m 41 #[vj q1, .second, vi p2, vi (4 : Int32), vr b_49, vj (q1 &&& (4294967295 : Int64)), .second] [(.ref b_49)])) rfl (by rw [hml]; rfl) (argsL := [(.ref b_49)]) (rest := []) (lenOf pd0_1 rfl) rfl (by show 2 * 0 + _ ≤ _; exact Nat.le_of_eq rfl) (hb hby at_41) (fun _ _ => ⟨rfl, rfl, (by decide : 1 + 0 ≤ _), (by decide : 4 + 0 ≤ _)⟩)
    dsimp only [Pt.U, Pt.locs, Pt.cells, Pt.slots] at X53 l53 y53 z53 st53 hQ53
    subst l53 y53 z53
    obtain ⟨rfl, Nq53, eh53⟩ := hQ53
    have N53 := Fr.app N49 Nq53
    have go54 : Go p e below s₁ F0 T53 (mkF m 44 #[vj q1, .second, vi p2, vi (4 : Int32), vr b_49, vj (q1 &&& (4294967295 : Int64)), .second] [(.long (f2_4 ((q1.toInt32).toInt8.toInt32) ((((q1.toUInt64 >>> ((8 : Int32) &&& 0x3f).toInt64.toUInt64).toInt64).toInt32).toInt8.toInt32) ((((q1.toUInt64 >>> ((16 : Int32) &&& 0x3f).toInt64.toUInt64).toInt64).toInt32).toInt8.toInt32) ((((q1.toUInt64 >>> ((24 : Int32) &&& 0x3f).toInt64.toUInt64).toInt64).toInt32).toInt8.toInt32)))]) := fun t_ k_ => go52 t_ (st53 t_ k_)
    have go56 : Go p e below s₁ F0 T53 (mkF m 47 #[vj q1, .second, vi p2, vi (4 : Int32), vr b_49, vj (q1 &&& (4294967295 : Int64)), .second] [(.int (lcmpW (f2_4 ((q1.toInt32).toInt8.toInt32) ((((q1.toUInt64 >>> ((8 : Int32) &&& 0x3f).toInt64.toUInt64).toInt64).toInt32).toInt8.toInt32) ((((q1.toUInt64 >>> ((16 : Int32) &&& 0x3f).toInt64.toUInt64).toInt64).toInt32).toInt8.toInt32) ((((q1.toUInt64 >>> ((24 : Int32) &&& 0x3f).toInt64.toUInt64).toInt64).toInt32).toInt8.toInt32)) (q1 &&& (4294967295 : Int64))))]) := by
      intro t_ k_
      refine go54 t_ ?_
      refine o_lload X53 hx (hb hby at_44) rfl ?_
      refine o_lcmp X53 hx (hb hby at_46) ?_
      exact k_
    have hd55 : (f2_4 ((q1.toInt32).toInt8.toInt32) ((((q1.toUInt64 >>> ((8 : Int32) &&& 0x3f).toInt64.toUInt64).toInt64).toInt32).toInt8.toInt32) ((((q1.toUInt64 >>> ((16 : Int32) &&& 0x3f).toInt64.toUInt64).toInt64).toInt32).toInt8.toInt32) ((((q1.toUInt64 >>> ((24 : Int32) &&& 0x3f).toInt64.toUInt64).toInt64).toInt32).toInt8.toInt32)) = (q1 &&& (4294967295 : Int64)) := own_law_4 _
    have go57 : Go p e below s₁ F0 T53 (mkF m 55 #[vj q1, .second, vi p2, vi (4 : Int32), vr b_49, vj (q1 &&& (4294967295 : Int64)), .second] [(.int (1 : Int32))]) := by
      intro t_ k_
      refine go56 t_ ?_
      refine o_ifNo X53 hx (hb hby at_47) ((if0 _ _).trans (teq ((lw_eq _ _).mpr hd55)).2) ?_
      refine o_iconst X53 hx (hb hby at_50) (v := 1) rfl ?_
      refine o_goto X53 hx (hb hby at_51) (pc' := 55) rfl (by decide) ?_
      exact k_
    obtain ⟨fs, hr, hrun, hended, hW, hsame⟩ := X53.leave (v := some (.int (1 : Int32))) (fun h => by rw [Bd.returns] at h; cases h)
    refine ⟨_, _, pre0 _ (go57 _ ?_), hrun, hended, _, _, rfl, ?_, ⟨_, rfl⟩, hW, hsame.mono (by decide) (by decide)⟩
    · skip
      exact retN X53 hx (t := .boolean) Bd.returns (by simp) (hb hby at_55) hr
    · show Q0 Z q1 p2 h0 n0 _ T53.heap _
      rw [eh53]
      exact ⟨rfl, N53⟩
  · skip
    have go58 : Go p e below s₁ F0 s₁ (mkF m 8 #[vj q1, .second, vi p2, vi (5 : Int32), .unset, .unset, .unset] []) := by rw [hcs2] at go1; exact go1
    have go59 : Go p e below s₁ F0 s₁ (mkF m 10 #[vj q1, .second, vi p2, vi (5 : Int32), .unset, .unset, .unset] [(.int (5 : Int32)), (.long q1)]) := by
      intro t_ k_
      refine go58 t_ ?_
      refine o_lloadN X0 hx (hb hby at_8) rfl ?_
      refine o_iloadN X0 hx (hb hby at_9) rfl ?_
      exact k_
    obtain ⟨_, _, ⟨T60, L60, k60, n60⟩, -, X60, ⟨Lc60, hQ60, l60, y60, z60⟩, st60⟩ := Jvm.LawKit.callS X0 hx (y := y_0) hown (mvT hZ (own_w hw 1 rfl)) (mvT hZ (own_w hw 2 rfl)) (mvT hZ (own_w hw 3 rfl)) (mvT hZ (own_w hw 4 rfl)) (by decide) (backOf (W := 0) (rm1_5 l Z a0 hw [] q1 h0 n0 Z0 ) hZ (own_w hw 4 rfl) (own_w hw 3 rfl) (by decide) (by decide)) (g := (mkF m 10 #[vj q1, .second, vi p2, vi (5 : Int32), .unset, .unset, .unset] [(.int (5 : Int32)), (.long q1)])) rfl (by rw [hml]; rfl) (argsL := [(.long q1), (.int (5 : Int32))]) (rest := []) (lenOf pd0_0 rfl) rfl (by show 2 * 0 + _ ≤ _; exact Nat.le_of_eq rfl) (hb hby at_10) (fun _ _ => ⟨rfl, e0, (by decide : 0 + 1 ≤ _), (by decide : 0 + 5 ≤ _)⟩)
    dsimp only [Pt.U, Pt.locs, Pt.cells, Pt.slots] at X60 l60 y60 z60 st60 hQ60
    subst l60 y60 z60
    obtain ⟨b_60, kb_60, rfl, Nq60, Kc60, hb_60, V_60⟩ := hQ60
    have N60 := Fr.app N0 Nq60
    have g_b_60 : n0 ≤ b_60 := Nat.le_trans Z0 hb_60
    have Z61 : n0 ≤ T60.heap.size := Nat.le_trans Z0 Kc60.1
    have go62 : Go p e below s₁ F0 T60 (mkF m 13 #[vj q1, .second, vi p2, vi (5 : Int32), .unset, .unset, .unset] [(.ref b_60)]) := fun t_ k_ => go59 t_ (st60 t_ k_)
    have go63 : Go p e below s₁ F0 T60 (mkF m 41 #[vj q1, .second, vi p2, vi (5 : Int32), vr b_60, vj (q1 &&& (1099511627775 : Int64)), .second] [(.ref b_60)]) := by
      intro t_ k_
      refine go62 t_ ?_
      refine o_astore X60 hx (hb hby at_13) rfl (L' := #[vj q1, .second, vi p2, vi (5 : Int32), vr b_60, .unset, .unset]) rfl ?_
      refine o_iloadN X60 hx (hb hby at_15) rfl ?_
      refine o_bipush X60 hx (hb hby at_16) (v := 8) rfl ?_
      refine o_icmpYes X60 hx (hb hby at_18) (pc' := 27) rfl (by decide) (feq (by decide : ¬ ((5 : Int32) = (8 : Int32)))).2 ?_
      refine o_lloadN X60 hx (hb hby at_27) rfl ?_
      refine o_lconst X60 hx (hb hby at_28) (v := 1) rfl ?_
      refine o_bipush X60 hx (hb hby at_29) (v := 8) rfl ?_
      refine o_iloadN X60 hx (hb hby at_31) rfl ?_
      refine o_imulE X60 hx (hb hby at_32) (v := 40) rfl ?_
      refine o_lshlE X60 hx (hb hby at_33) (v := 1099511627776) rfl ?_
      refine o_lconst X60 hx (hb hby at_34) (v := 1) rfl ?_
      refine o_lsubE X60 hx (hb hby at_35) (v := 1099511627775) rfl ?_
      refine o_land X60 hx (hb hby at_36) ?_
      refine o_lstore X60 hx (hb hby at_37) (L' := #[vj q1, .second, vi p2, vi (5 : Int32), vr b_60, vj (q1 &&& (1099511627775 : Int64)), .second]) rfl ?_
      refine o_aload X60 hx (hb hby at_39) rfl rfl ?_
      exact k_
    obtain ⟨_, _, ⟨T64, L64, k64, n64⟩, -, X64, ⟨Lc64, hQ64, l64, y64, z64⟩, st64⟩ := Jvm.LawKit.callS X60 hx (y := y_1) hown (mvT hZ (own_w hw 6 rfl)) (mvT hZ (own_w hw 7 rfl)) (mvT hZ (own_w hw 8 rfl)) (mvT hZ (own_w hw 9 rfl)) (by decide) (backOf (W := 0) (rm2_5 l Z a0 hw [] b_60 kb_60 ((q1.toInt32).toInt8.toInt32) ((((q1.toUInt64 >>> ((8 : Int32) &&& 0x3f).toInt64.toUInt64).toInt64).toInt32).toInt8.toInt32) ((((q1.toUInt64 >>> ((16 : Int32) &&& 0x3f).toInt64.toUInt64).toInt64).toInt32).toInt8.toInt32) ((((q1.toUInt64 >>> ((24 : Int32) &&& 0x3f).toInt64.toUInt64).toInt64).toInt32).toInt8.toInt32) ((((q1.toUInt64 >>> ((32 : Int32) &&& 0x3f).toInt64.toUInt64).toInt64).toInt32).toInt8.toInt32) (T60.heap) n0 Z61 V_60) hZ (own_w hw 9 rfl) (own_w hw 8 rfl) (by decide) (by decide)) (g := (mkF m 41 #[vj q1, .second, vi p2, vi (5 : Int32), vr b_60, vj (q1 &&& (1099511627775 : Int64)), .second] [(.ref b_60)])) rfl (by rw [hml]; rfl) (argsL := [(.ref b_60)]) (rest := []) (lenOf pd0_1 rfl) rfl (by show 2 * 0 + _ ≤ _; exact Nat.le_of_eq rfl) (hb hby at_41) (fun _ _ => ⟨rfl, rfl, (by decide : 1 + 0 ≤ _), (by decide : 5 + 0 ≤ _)⟩)
    dsimp only [Pt.U, Pt.locs, Pt.cells, Pt.slots] at X64 l64 y64 z64 st64 hQ64
    subst l64 y64 z64
    obtain ⟨rfl, Nq64, eh64⟩ := hQ64
    have N64 := Fr.app N60 Nq64
    have go65 : Go p e below s₁ F0 T64 (mkF m 44 #[vj q1, .second, vi p2, vi (5 : Int32), vr b_60, vj (q1 &&& (1099511627775 : Int64)), .second] [(.long (f2_5 ((q1.toInt32).toInt8.toInt32) ((((q1.toUInt64 >>> ((8 : Int32) &&& 0x3f).toInt64.toUInt64).toInt64).toInt32).toInt8.toInt32) ((((q1.toUInt64 >>> ((16 : Int32) &&& 0x3f).toInt64.toUInt64).toInt64).toInt32).toInt8.toInt32) ((((q1.toUInt64 >>> ((24 : Int32) &&& 0x3f).toInt64.toUInt64).toInt64).toInt32).toInt8.toInt32) ((((q1.toUInt64 >>> ((32 : Int32) &&& 0x3f).toInt64.toUInt64).toInt64).toInt32).toInt8.toInt32)))]) := fun t_ k_ => go63 t_ (st64 t_ k_)
    have go67 : Go p e below s₁ F0 T64 (mkF m 47 #[vj q1, .second, vi p2, vi (5 : Int32), vr b_60, vj (q1 &&& (1099511627775 : Int64)), .second] [(.int (lcmpW (f2_5 ((q1.toInt32).toInt8.toInt32) ((((q1.toUInt64 >>> ((8 : Int32) &&& 0x3f).toInt64.toUInt64).toInt64).toInt32).toInt8.toInt32) ((((q1.toUInt64 >>> ((16 : Int32) &&& 0x3f).toInt64.toUInt64).toInt64).toInt32).toInt8.toInt32) ((((q1.toUInt64 >>> ((24 : Int32) &&& 0x3f).toInt64.toUInt64).toInt64).toInt32).toInt8.toInt32) ((((q1.toUInt64 >>> ((32 : Int32) &&& 0x3f).toInt64.toUInt64).toInt64).toInt32).toInt8.toInt32)) (q1 &&& (1099511627775 : Int64))))]) := by
      intro t_ k_
      refine go65 t_ ?_
      refine o_lload X64 hx (hb hby at_44) rfl ?_
      refine o_lcmp X64 hx (hb hby at_46) ?_
      exact k_
    have hd66 : (f2_5 ((q1.toInt32).toInt8.toInt32) ((((q1.toUInt64 >>> ((8 : Int32) &&& 0x3f).toInt64.toUInt64).toInt64).toInt32).toInt8.toInt32) ((((q1.toUInt64 >>> ((16 : Int32) &&& 0x3f).toInt64.toUInt64).toInt64).toInt32).toInt8.toInt32) ((((q1.toUInt64 >>> ((24 : Int32) &&& 0x3f).toInt64.toUInt64).toInt64).toInt32).toInt8.toInt32) ((((q1.toUInt64 >>> ((32 : Int32) &&& 0x3f).toInt64.toUInt64).toInt64).toInt32).toInt8.toInt32)) = (q1 &&& (1099511627775 : Int64)) := own_law_5 _
    have go68 : Go p e below s₁ F0 T64 (mkF m 55 #[vj q1, .second, vi p2, vi (5 : Int32), vr b_60, vj (q1 &&& (1099511627775 : Int64)), .second] [(.int (1 : Int32))]) := by
      intro t_ k_
      refine go67 t_ ?_
      refine o_ifNo X64 hx (hb hby at_47) ((if0 _ _).trans (teq ((lw_eq _ _).mpr hd66)).2) ?_
      refine o_iconst X64 hx (hb hby at_50) (v := 1) rfl ?_
      refine o_goto X64 hx (hb hby at_51) (pc' := 55) rfl (by decide) ?_
      exact k_
    obtain ⟨fs, hr, hrun, hended, hW, hsame⟩ := X64.leave (v := some (.int (1 : Int32))) (fun h => by rw [Bd.returns] at h; cases h)
    refine ⟨_, _, pre0 _ (go68 _ ?_), hrun, hended, _, _, rfl, ?_, ⟨_, rfl⟩, hW, hsame.mono (by decide) (by decide)⟩
    · skip
      exact retN X64 hx (t := .boolean) Bd.returns (by simp) (hb hby at_55) hr
    · show Q0 Z q1 p2 h0 n0 _ T64.heap _
      rw [eh64]
      exact ⟨rfl, N64⟩
  · skip
    have go69 : Go p e below s₁ F0 s₁ (mkF m 8 #[vj q1, .second, vi p2, vi (6 : Int32), .unset, .unset, .unset] []) := by rw [hcs2] at go1; exact go1
    have go70 : Go p e below s₁ F0 s₁ (mkF m 10 #[vj q1, .second, vi p2, vi (6 : Int32), .unset, .unset, .unset] [(.int (6 : Int32)), (.long q1)]) := by
      intro t_ k_
      refine go69 t_ ?_
      refine o_lloadN X0 hx (hb hby at_8) rfl ?_
      refine o_iloadN X0 hx (hb hby at_9) rfl ?_
      exact k_
    obtain ⟨_, _, ⟨T71, L71, k71, n71⟩, -, X71, ⟨Lc71, hQ71, l71, y71, z71⟩, st71⟩ := Jvm.LawKit.callS X0 hx (y := y_0) hown (mvT hZ (own_w hw 1 rfl)) (mvT hZ (own_w hw 2 rfl)) (mvT hZ (own_w hw 3 rfl)) (mvT hZ (own_w hw 4 rfl)) (by decide) (backOf (W := 0) (rm1_6 l Z a0 hw [] q1 h0 n0 Z0 ) hZ (own_w hw 4 rfl) (own_w hw 3 rfl) (by decide) (by decide)) (g := (mkF m 10 #[vj q1, .second, vi p2, vi (6 : Int32), .unset, .unset, .unset] [(.int (6 : Int32)), (.long q1)])) rfl (by rw [hml]; rfl) (argsL := [(.long q1), (.int (6 : Int32))]) (rest := []) (lenOf pd0_0 rfl) rfl (by show 2 * 0 + _ ≤ _; exact Nat.le_of_eq rfl) (hb hby at_10) (fun _ _ => ⟨rfl, e0, (by decide : 0 + 1 ≤ _), (by decide : 0 + 6 ≤ _)⟩)
    dsimp only [Pt.U, Pt.locs, Pt.cells, Pt.slots] at X71 l71 y71 z71 st71 hQ71
    subst l71 y71 z71
    obtain ⟨b_71, kb_71, rfl, Nq71, Kc71, hb_71, V_71⟩ := hQ71
    have N71 := Fr.app N0 Nq71
    have g_b_71 : n0 ≤ b_71 := Nat.le_trans Z0 hb_71
    have Z72 : n0 ≤ T71.heap.size := Nat.le_trans Z0 Kc71.1
    have go73 : Go p e below s₁ F0 T71 (mkF m 13 #[vj q1, .second, vi p2, vi (6 : Int32), .unset, .unset, .unset] [(.ref b_71)]) := fun t_ k_ => go70 t_ (st71 t_ k_)
    have go74 : Go p e below s₁ F0 T71 (mkF m 41 #[vj q1, .second, vi p2, vi (6 : Int32), vr b_71, vj (q1 &&& (281474976710655 : Int64)), .second] [(.ref b_71)]) := by
      intro t_ k_
      refine go73 t_ ?_
      refine o_astore X71 hx (hb hby at_13) rfl (L' := #[vj q1, .second, vi p2, vi (6 : Int32), vr b_71, .unset, .unset]) rfl ?_
      refine o_iloadN X71 hx (hb hby at_15) rfl ?_
      refine o_bipush X71 hx (hb hby at_16) (v := 8) rfl ?_
      refine o_icmpYes X71 hx (hb hby at_18) (pc' := 27) rfl (by decide) (feq (by decide : ¬ ((6 : Int32) = (8 : Int32)))).2 ?_
      refine o_lloadN X71 hx (hb hby at_27) rfl ?_
      refine o_lconst X71 hx (hb hby at_28) (v := 1) rfl ?_
      refine o_bipush X71 hx (hb hby at_29) (v := 8) rfl ?_
      refine o_iloadN X71 hx (hb hby at_31) rfl ?_
      refine o_imulE X71 hx (hb hby at_32) (v := 48) rfl ?_
      refine o_lshlE X71 hx (hb hby at_33) (v := 281474976710656) rfl ?_
      refine o_lconst X71 hx (hb hby at_34) (v := 1) rfl ?_
      refine o_lsubE X71 hx (hb hby at_35) (v := 281474976710655) rfl ?_
      refine o_land X71 hx (hb hby at_36) ?_
      refine o_lstore X71 hx (hb hby at_37) (L' := #[vj q1, .second, vi p2, vi (6 : Int32), vr b_71, vj (q1 &&& (281474976710655 : Int64)), .second]) rfl ?_
      refine o_aload X71 hx (hb hby at_39) rfl rfl ?_
      exact k_
    obtain ⟨_, _, ⟨T75, L75, k75, n75⟩, -, X75, ⟨Lc75, hQ75, l75, y75, z75⟩, st75⟩ := Jvm.LawKit.callS X71 hx (y := y_1) hown (mvT hZ (own_w hw 6 rfl)) (mvT hZ (own_w hw 7 rfl)) (mvT hZ (own_w hw 8 rfl)) (mvT hZ (own_w hw 9 rfl)) (by decide) (backOf (W := 0) (rm2_6 l Z a0 hw [] b_71 kb_71 ((q1.toInt32).toInt8.toInt32) ((((q1.toUInt64 >>> ((8 : Int32) &&& 0x3f).toInt64.toUInt64).toInt64).toInt32).toInt8.toInt32) ((((q1.toUInt64 >>> ((16 : Int32) &&& 0x3f).toInt64.toUInt64).toInt64).toInt32).toInt8.toInt32) ((((q1.toUInt64 >>> ((24 : Int32) &&& 0x3f).toInt64.toUInt64).toInt64).toInt32).toInt8.toInt32) ((((q1.toUInt64 >>> ((32 : Int32) &&& 0x3f).toInt64.toUInt64).toInt64).toInt32).toInt8.toInt32) ((((q1.toUInt64 >>> ((40 : Int32) &&& 0x3f).toInt64.toUInt64).toInt64).toInt32).toInt8.toInt32) (T71.heap) n0 Z72 V_71) hZ (own_w hw 9 rfl) (own_w hw 8 rfl) (by decide) (by decide)) (g := (mkF m 41 #[vj q1, .second, vi p2, vi (6 : Int32), vr b_71, vj (q1 &&& (281474976710655 : Int64)), .second] [(.ref b_71)])) rfl (by rw [hml]; rfl) (argsL := [(.ref b_71)]) (rest := []) (lenOf pd0_1 rfl) rfl (by show 2 * 0 + _ ≤ _; exact Nat.le_of_eq rfl) (hb hby at_41) (fun _ _ => ⟨rfl, rfl, (by decide : 1 + 0 ≤ _), (by decide : 6 + 0 ≤ _)⟩)
    dsimp only [Pt.U, Pt.locs, Pt.cells, Pt.slots] at X75 l75 y75 z75 st75 hQ75
    subst l75 y75 z75
    obtain ⟨rfl, Nq75, eh75⟩ := hQ75
    have N75 := Fr.app N71 Nq75
    have go76 : Go p e below s₁ F0 T75 (mkF m 44 #[vj q1, .second, vi p2, vi (6 : Int32), vr b_71, vj (q1 &&& (281474976710655 : Int64)), .second] [(.long (f2_6 ((q1.toInt32).toInt8.toInt32) ((((q1.toUInt64 >>> ((8 : Int32) &&& 0x3f).toInt64.toUInt64).toInt64).toInt32).toInt8.toInt32) ((((q1.toUInt64 >>> ((16 : Int32) &&& 0x3f).toInt64.toUInt64).toInt64).toInt32).toInt8.toInt32) ((((q1.toUInt64 >>> ((24 : Int32) &&& 0x3f).toInt64.toUInt64).toInt64).toInt32).toInt8.toInt32) ((((q1.toUInt64 >>> ((32 : Int32) &&& 0x3f).toInt64.toUInt64).toInt64).toInt32).toInt8.toInt32) ((((q1.toUInt64 >>> ((40 : Int32) &&& 0x3f).toInt64.toUInt64).toInt64).toInt32).toInt8.toInt32)))]) := fun t_ k_ => go74 t_ (st75 t_ k_)
    have go78 : Go p e below s₁ F0 T75 (mkF m 47 #[vj q1, .second, vi p2, vi (6 : Int32), vr b_71, vj (q1 &&& (281474976710655 : Int64)), .second] [(.int (lcmpW (f2_6 ((q1.toInt32).toInt8.toInt32) ((((q1.toUInt64 >>> ((8 : Int32) &&& 0x3f).toInt64.toUInt64).toInt64).toInt32).toInt8.toInt32) ((((q1.toUInt64 >>> ((16 : Int32) &&& 0x3f).toInt64.toUInt64).toInt64).toInt32).toInt8.toInt32) ((((q1.toUInt64 >>> ((24 : Int32) &&& 0x3f).toInt64.toUInt64).toInt64).toInt32).toInt8.toInt32) ((((q1.toUInt64 >>> ((32 : Int32) &&& 0x3f).toInt64.toUInt64).toInt64).toInt32).toInt8.toInt32) ((((q1.toUInt64 >>> ((40 : Int32) &&& 0x3f).toInt64.toUInt64).toInt64).toInt32).toInt8.toInt32)) (q1 &&& (281474976710655 : Int64))))]) := by
      intro t_ k_
      refine go76 t_ ?_
      refine o_lload X75 hx (hb hby at_44) rfl ?_
      refine o_lcmp X75 hx (hb hby at_46) ?_
      exact k_
    have hd77 : (f2_6 ((q1.toInt32).toInt8.toInt32) ((((q1.toUInt64 >>> ((8 : Int32) &&& 0x3f).toInt64.toUInt64).toInt64).toInt32).toInt8.toInt32) ((((q1.toUInt64 >>> ((16 : Int32) &&& 0x3f).toInt64.toUInt64).toInt64).toInt32).toInt8.toInt32) ((((q1.toUInt64 >>> ((24 : Int32) &&& 0x3f).toInt64.toUInt64).toInt64).toInt32).toInt8.toInt32) ((((q1.toUInt64 >>> ((32 : Int32) &&& 0x3f).toInt64.toUInt64).toInt64).toInt32).toInt8.toInt32) ((((q1.toUInt64 >>> ((40 : Int32) &&& 0x3f).toInt64.toUInt64).toInt64).toInt32).toInt8.toInt32)) = (q1 &&& (281474976710655 : Int64)) := own_law_6 _
    have go79 : Go p e below s₁ F0 T75 (mkF m 55 #[vj q1, .second, vi p2, vi (6 : Int32), vr b_71, vj (q1 &&& (281474976710655 : Int64)), .second] [(.int (1 : Int32))]) := by
      intro t_ k_
      refine go78 t_ ?_
      refine o_ifNo X75 hx (hb hby at_47) ((if0 _ _).trans (teq ((lw_eq _ _).mpr hd77)).2) ?_
      refine o_iconst X75 hx (hb hby at_50) (v := 1) rfl ?_
      refine o_goto X75 hx (hb hby at_51) (pc' := 55) rfl (by decide) ?_
      exact k_
    obtain ⟨fs, hr, hrun, hended, hW, hsame⟩ := X75.leave (v := some (.int (1 : Int32))) (fun h => by rw [Bd.returns] at h; cases h)
    refine ⟨_, _, pre0 _ (go79 _ ?_), hrun, hended, _, _, rfl, ?_, ⟨_, rfl⟩, hW, hsame.mono (by decide) (by decide)⟩
    · skip
      exact retN X75 hx (t := .boolean) Bd.returns (by simp) (hb hby at_55) hr
    · show Q0 Z q1 p2 h0 n0 _ T75.heap _
      rw [eh75]
      exact ⟨rfl, N75⟩
  · skip
    have go80 : Go p e below s₁ F0 s₁ (mkF m 8 #[vj q1, .second, vi p2, vi (7 : Int32), .unset, .unset, .unset] []) := by rw [hcs2] at go1; exact go1
    have go81 : Go p e below s₁ F0 s₁ (mkF m 10 #[vj q1, .second, vi p2, vi (7 : Int32), .unset, .unset, .unset] [(.int (7 : Int32)), (.long q1)]) := by
      intro t_ k_
      refine go80 t_ ?_
      refine o_lloadN X0 hx (hb hby at_8) rfl ?_
      refine o_iloadN X0 hx (hb hby at_9) rfl ?_
      exact k_
    obtain ⟨_, _, ⟨T82, L82, k82, n82⟩, -, X82, ⟨Lc82, hQ82, l82, y82, z82⟩, st82⟩ := Jvm.LawKit.callS X0 hx (y := y_0) hown (mvT hZ (own_w hw 1 rfl)) (mvT hZ (own_w hw 2 rfl)) (mvT hZ (own_w hw 3 rfl)) (mvT hZ (own_w hw 4 rfl)) (by decide) (backOf (W := 0) (rm1_7 l Z a0 hw [] q1 h0 n0 Z0 ) hZ (own_w hw 4 rfl) (own_w hw 3 rfl) (by decide) (by decide)) (g := (mkF m 10 #[vj q1, .second, vi p2, vi (7 : Int32), .unset, .unset, .unset] [(.int (7 : Int32)), (.long q1)])) rfl (by rw [hml]; rfl) (argsL := [(.long q1), (.int (7 : Int32))]) (rest := []) (lenOf pd0_0 rfl) rfl (by show 2 * 0 + _ ≤ _; exact Nat.le_of_eq rfl) (hb hby at_10) (fun _ _ => ⟨rfl, e0, (by decide : 0 + 1 ≤ _), (by decide : 0 + 7 ≤ _)⟩)
    dsimp only [Pt.U, Pt.locs, Pt.cells, Pt.slots] at X82 l82 y82 z82 st82 hQ82
    subst l82 y82 z82
    obtain ⟨b_82, kb_82, rfl, Nq82, Kc82, hb_82, V_82⟩ := hQ82
    have N82 := Fr.app N0 Nq82
    have g_b_82 : n0 ≤ b_82 := Nat.le_trans Z0 hb_82
    have Z83 : n0 ≤ T82.heap.size := Nat.le_trans Z0 Kc82.1
    have go84 : Go p e below s₁ F0 T82 (mkF m 13 #[vj q1, .second, vi p2, vi (7 : Int32), .unset, .unset, .unset] [(.ref b_82)]) := fun t_ k_ => go81 t_ (st82 t_ k_)
    have go85 : Go p e below s₁ F0 T82 (mkF m 41 #[vj q1, .second, vi p2, vi (7 : Int32), vr b_82, vj (q1 &&& (72057594037927935 : Int64)), .second] [(.ref b_82)]) := by
      intro t_ k_
      refine go84 t_ ?_
      refine o_astore X82 hx (hb hby at_13) rfl (L' := #[vj q1, .second, vi p2, vi (7 : Int32), vr b_82, .unset, .unset]) rfl ?_
      refine o_iloadN X82 hx (hb hby at_15) rfl ?_
      refine o_bipush X82 hx (hb hby at_16) (v := 8) rfl ?_
      refine o_icmpYes X82 hx (hb hby at_18) (pc' := 27) rfl (by decide) (feq (by decide : ¬ ((7 : Int32) = (8 : Int32)))).2 ?_
      refine o_lloadN X82 hx (hb hby at_27) rfl ?_
      refine o_lconst X82 hx (hb hby at_28) (v := 1) rfl ?_
      refine o_bipush X82 hx (hb hby at_29) (v := 8) rfl ?_
      refine o_iloadN X82 hx (hb hby at_31) rfl ?_
      refine o_imulE X82 hx (hb hby at_32) (v := 56) rfl ?_
      refine o_lshlE X82 hx (hb hby at_33) (v := 72057594037927936) rfl ?_
      refine o_lconst X82 hx (hb hby at_34) (v := 1) rfl ?_
      refine o_lsubE X82 hx (hb hby at_35) (v := 72057594037927935) rfl ?_
      refine o_land X82 hx (hb hby at_36) ?_
      refine o_lstore X82 hx (hb hby at_37) (L' := #[vj q1, .second, vi p2, vi (7 : Int32), vr b_82, vj (q1 &&& (72057594037927935 : Int64)), .second]) rfl ?_
      refine o_aload X82 hx (hb hby at_39) rfl rfl ?_
      exact k_
    obtain ⟨_, _, ⟨T86, L86, k86, n86⟩, -, X86, ⟨Lc86, hQ86, l86, y86, z86⟩, st86⟩ := Jvm.LawKit.callS X82 hx (y := y_1) hown (mvT hZ (own_w hw 6 rfl)) (mvT hZ (own_w hw 7 rfl)) (mvT hZ (own_w hw 8 rfl)) (mvT hZ (own_w hw 9 rfl)) (by decide) (backOf (W := 0) (rm2_7 l Z a0 hw [] b_82 kb_82 ((q1.toInt32).toInt8.toInt32) ((((q1.toUInt64 >>> ((8 : Int32) &&& 0x3f).toInt64.toUInt64).toInt64).toInt32).toInt8.toInt32) ((((q1.toUInt64 >>> ((16 : Int32) &&& 0x3f).toInt64.toUInt64).toInt64).toInt32).toInt8.toInt32) ((((q1.toUInt64 >>> ((24 : Int32) &&& 0x3f).toInt64.toUInt64).toInt64).toInt32).toInt8.toInt32) ((((q1.toUInt64 >>> ((32 : Int32) &&& 0x3f).toInt64.toUInt64).toInt64).toInt32).toInt8.toInt32) ((((q1.toUInt64 >>> ((40 : Int32) &&& 0x3f).toInt64.toUInt64).toInt64).toInt32).toInt8.toInt32) ((((q1.toUInt64 >>> ((48 : Int32) &&& 0x3f).toInt64.toUInt64).toInt64).toInt32).toInt8.toInt32) (T82.heap) n0 Z83 V_82) hZ (own_w hw 9 rfl) (own_w hw 8 rfl) (by decide) (by decide)) (g := (mkF m 41 #[vj q1, .second, vi p2, vi (7 : Int32), vr b_82, vj (q1 &&& (72057594037927935 : Int64)), .second] [(.ref b_82)])) rfl (by rw [hml]; rfl) (argsL := [(.ref b_82)]) (rest := []) (lenOf pd0_1 rfl) rfl (by show 2 * 0 + _ ≤ _; exact Nat.le_of_eq rfl) (hb hby at_41) (fun _ _ => ⟨rfl, rfl, (by decide : 1 + 0 ≤ _), (by decide : 7 + 0 ≤ _)⟩)
    dsimp only [Pt.U, Pt.locs, Pt.cells, Pt.slots] at X86 l86 y86 z86 st86 hQ86
    subst l86 y86 z86
    obtain ⟨rfl, Nq86, eh86⟩ := hQ86
    have N86 := Fr.app N82 Nq86
    have go87 : Go p e below s₁ F0 T86 (mkF m 44 #[vj q1, .second, vi p2, vi (7 : Int32), vr b_82, vj (q1 &&& (72057594037927935 : Int64)), .second] [(.long (f2_7 ((q1.toInt32).toInt8.toInt32) ((((q1.toUInt64 >>> ((8 : Int32) &&& 0x3f).toInt64.toUInt64).toInt64).toInt32).toInt8.toInt32) ((((q1.toUInt64 >>> ((16 : Int32) &&& 0x3f).toInt64.toUInt64).toInt64).toInt32).toInt8.toInt32) ((((q1.toUInt64 >>> ((24 : Int32) &&& 0x3f).toInt64.toUInt64).toInt64).toInt32).toInt8.toInt32) ((((q1.toUInt64 >>> ((32 : Int32) &&& 0x3f).toInt64.toUInt64).toInt64).toInt32).toInt8.toInt32) ((((q1.toUInt64 >>> ((40 : Int32) &&& 0x3f).toInt64.toUInt64).toInt64).toInt32).toInt8.toInt32) ((((q1.toUInt64 >>> ((48 : Int32) &&& 0x3f).toInt64.toUInt64).toInt64).toInt32).toInt8.toInt32)))]) := fun t_ k_ => go85 t_ (st86 t_ k_)
    have go89 : Go p e below s₁ F0 T86 (mkF m 47 #[vj q1, .second, vi p2, vi (7 : Int32), vr b_82, vj (q1 &&& (72057594037927935 : Int64)), .second] [(.int (lcmpW (f2_7 ((q1.toInt32).toInt8.toInt32) ((((q1.toUInt64 >>> ((8 : Int32) &&& 0x3f).toInt64.toUInt64).toInt64).toInt32).toInt8.toInt32) ((((q1.toUInt64 >>> ((16 : Int32) &&& 0x3f).toInt64.toUInt64).toInt64).toInt32).toInt8.toInt32) ((((q1.toUInt64 >>> ((24 : Int32) &&& 0x3f).toInt64.toUInt64).toInt64).toInt32).toInt8.toInt32) ((((q1.toUInt64 >>> ((32 : Int32) &&& 0x3f).toInt64.toUInt64).toInt64).toInt32).toInt8.toInt32) ((((q1.toUInt64 >>> ((40 : Int32) &&& 0x3f).toInt64.toUInt64).toInt64).toInt32).toInt8.toInt32) ((((q1.toUInt64 >>> ((48 : Int32) &&& 0x3f).toInt64.toUInt64).toInt64).toInt32).toInt8.toInt32)) (q1 &&& (72057594037927935 : Int64))))]) := by
      intro t_ k_
      refine go87 t_ ?_
      refine o_lload X86 hx (hb hby at_44) rfl ?_
      refine o_lcmp X86 hx (hb hby at_46) ?_
      exact k_
    have hd88 : (f2_7 ((q1.toInt32).toInt8.toInt32) ((((q1.toUInt64 >>> ((8 : Int32) &&& 0x3f).toInt64.toUInt64).toInt64).toInt32).toInt8.toInt32) ((((q1.toUInt64 >>> ((16 : Int32) &&& 0x3f).toInt64.toUInt64).toInt64).toInt32).toInt8.toInt32) ((((q1.toUInt64 >>> ((24 : Int32) &&& 0x3f).toInt64.toUInt64).toInt64).toInt32).toInt8.toInt32) ((((q1.toUInt64 >>> ((32 : Int32) &&& 0x3f).toInt64.toUInt64).toInt64).toInt32).toInt8.toInt32) ((((q1.toUInt64 >>> ((40 : Int32) &&& 0x3f).toInt64.toUInt64).toInt64).toInt32).toInt8.toInt32) ((((q1.toUInt64 >>> ((48 : Int32) &&& 0x3f).toInt64.toUInt64).toInt64).toInt32).toInt8.toInt32)) = (q1 &&& (72057594037927935 : Int64)) := own_law_7 _
    have go90 : Go p e below s₁ F0 T86 (mkF m 55 #[vj q1, .second, vi p2, vi (7 : Int32), vr b_82, vj (q1 &&& (72057594037927935 : Int64)), .second] [(.int (1 : Int32))]) := by
      intro t_ k_
      refine go89 t_ ?_
      refine o_ifNo X86 hx (hb hby at_47) ((if0 _ _).trans (teq ((lw_eq _ _).mpr hd88)).2) ?_
      refine o_iconst X86 hx (hb hby at_50) (v := 1) rfl ?_
      refine o_goto X86 hx (hb hby at_51) (pc' := 55) rfl (by decide) ?_
      exact k_
    obtain ⟨fs, hr, hrun, hended, hW, hsame⟩ := X86.leave (v := some (.int (1 : Int32))) (fun h => by rw [Bd.returns] at h; cases h)
    refine ⟨_, _, pre0 _ (go90 _ ?_), hrun, hended, _, _, rfl, ?_, ⟨_, rfl⟩, hW, hsame.mono (by decide) (by decide)⟩
    · skip
      exact retN X86 hx (t := .boolean) Bd.returns (by simp) (hb hby at_55) hr
    · show Q0 Z q1 p2 h0 n0 _ T86.heap _
      rw [eh86]
      exact ⟨rfl, N86⟩
  · skip
    have go91 : Go p e below s₁ F0 s₁ (mkF m 8 #[vj q1, .second, vi p2, vi (8 : Int32), .unset, .unset, .unset] []) := by rw [hcs2] at go1; exact go1
    have go92 : Go p e below s₁ F0 s₁ (mkF m 10 #[vj q1, .second, vi p2, vi (8 : Int32), .unset, .unset, .unset] [(.int (8 : Int32)), (.long q1)]) := by
      intro t_ k_
      refine go91 t_ ?_
      refine o_lloadN X0 hx (hb hby at_8) rfl ?_
      refine o_iloadN X0 hx (hb hby at_9) rfl ?_
      exact k_
    obtain ⟨_, _, ⟨T93, L93, k93, n93⟩, -, X93, ⟨Lc93, hQ93, l93, y93, z93⟩, st93⟩ := Jvm.LawKit.callS X0 hx (y := y_0) hown (mvT hZ (own_w hw 1 rfl)) (mvT hZ (own_w hw 2 rfl)) (mvT hZ (own_w hw 3 rfl)) (mvT hZ (own_w hw 4 rfl)) (by decide) (backOf (W := 0) (rm1_8 l Z a0 hw [] q1 h0 n0 Z0 ) hZ (own_w hw 4 rfl) (own_w hw 3 rfl) (by decide) (by decide)) (g := (mkF m 10 #[vj q1, .second, vi p2, vi (8 : Int32), .unset, .unset, .unset] [(.int (8 : Int32)), (.long q1)])) rfl (by rw [hml]; rfl) (argsL := [(.long q1), (.int (8 : Int32))]) (rest := []) (lenOf pd0_0 rfl) rfl (by show 2 * 0 + _ ≤ _; exact Nat.le_of_eq rfl) (hb hby at_10) (fun _ _ => ⟨rfl, e0, (by decide : 0 + 1 ≤ _), (by decide : 0 + 8 ≤ _)⟩)
    dsimp only [Pt.U, Pt.locs, Pt.cells, Pt.slots] at X93 l93 y93 z93 st93 hQ93
    subst l93 y93 z93
    obtain ⟨b_93, kb_93, rfl, Nq93, Kc93, hb_93, V_93⟩ := hQ93
    have N93 := Fr.app N0 Nq93
    have g_b_93 : n0 ≤ b_93 := Nat.le_trans Z0 hb_93
    have Z94 : n0 ≤ T93.heap.size := Nat.le_trans Z0 Kc93.1
    have go95 : Go p e below s₁ F0 T93 (mkF m 13 #[vj q1, .second, vi p2, vi (8 : Int32), .unset, .unset, .unset] [(.ref b_93)]) := fun t_ k_ => go92 t_ (st93 t_ k_)
    have go96 : Go p e below s₁ F0 T93 (mkF m 41 #[vj q1, .second, vi p2, vi (8 : Int32), vr b_93, vj q1, .second] [(.ref b_93)]) := by
      intro t_ k_
      refine go95 t_ ?_
      refine o_astore X93 hx (hb hby at_13) rfl (L' := #[vj q1, .second, vi p2, vi (8 : Int32), vr b_93, .unset, .unset]) rfl ?_
      refine o_iloadN X93 hx (hb hby at_15) rfl ?_
      refine o_bipush X93 hx (hb hby at_16) (v := 8) rfl ?_
      refine o_icmpNo X93 hx (hb hby at_18) (teq (by decide : (8 : Int32) = (8 : Int32))).2 ?_
      refine o_lloadN X93 hx (hb hby at_21) rfl ?_
      refine o_lstore X93 hx (hb hby at_22) (L' := #[vj q1, .second, vi p2, vi (8 : Int32), vr b_93, vj q1, .second]) rfl ?_
      refine o_goto X93 hx (hb hby at_24) (pc' := 39) rfl (by decide) ?_
      refine o_aload X93 hx (hb hby at_39) rfl rfl ?_
      exact k_
    obtain ⟨_, _, ⟨T97, L97, k97, n97⟩, -, X97, ⟨Lc97, hQ97, l97, y97, z97⟩, st97⟩ := Jvm.LawKit.callS X93 hx (y := y_1) hown (mvT hZ (own_w hw 6 rfl)) (mvT hZ (own_w hw 7 rfl)) (mvT hZ (own_w hw 8 rfl)) (mvT hZ (own_w hw 9 rfl)) (by decide) (backOf (W := 0) (rm2_8 l Z a0 hw [] b_93 kb_93 ((q1.toInt32).toInt8.toInt32) ((((q1.toUInt64 >>> ((8 : Int32) &&& 0x3f).toInt64.toUInt64).toInt64).toInt32).toInt8.toInt32) ((((q1.toUInt64 >>> ((16 : Int32) &&& 0x3f).toInt64.toUInt64).toInt64).toInt32).toInt8.toInt32) ((((q1.toUInt64 >>> ((24 : Int32) &&& 0x3f).toInt64.toUInt64).toInt64).toInt32).toInt8.toInt32) ((((q1.toUInt64 >>> ((32 : Int32) &&& 0x3f).toInt64.toUInt64).toInt64).toInt32).toInt8.toInt32) ((((q1.toUInt64 >>> ((40 : Int32) &&& 0x3f).toInt64.toUInt64).toInt64).toInt32).toInt8.toInt32) ((((q1.toUInt64 >>> ((48 : Int32) &&& 0x3f).toInt64.toUInt64).toInt64).toInt32).toInt8.toInt32) ((((q1.toUInt64 >>> ((56 : Int32) &&& 0x3f).toInt64.toUInt64).toInt64).toInt32).toInt8.toInt32) (T93.heap) n0 Z94 V_93) hZ (own_w hw 9 rfl) (own_w hw 8 rfl) (by decide) (by decide)) (g := (mkF m 41 #[vj q1, .second, vi p2, vi (8 : Int32), vr b_93, vj q1, .second] [(.ref b_93)])) rfl (by rw [hml]; rfl) (argsL := [(.ref b_93)]) (rest := []) (lenOf pd0_1 rfl) rfl (by show 2 * 0 + _ ≤ _; exact Nat.le_of_eq rfl) (hb hby at_41) (fun _ _ => ⟨rfl, rfl, (by decide : 1 + 0 ≤ _), (by decide : 8 + 0 ≤ _)⟩)
    dsimp only [Pt.U, Pt.locs, Pt.cells, Pt.slots] at X97 l97 y97 z97 st97 hQ97
    subst l97 y97 z97
    obtain ⟨rfl, Nq97, eh97⟩ := hQ97
    have N97 := Fr.app N93 Nq97
    have go98 : Go p e below s₁ F0 T97 (mkF m 44 #[vj q1, .second, vi p2, vi (8 : Int32), vr b_93, vj q1, .second] [(.long (f2_8 ((q1.toInt32).toInt8.toInt32) ((((q1.toUInt64 >>> ((8 : Int32) &&& 0x3f).toInt64.toUInt64).toInt64).toInt32).toInt8.toInt32) ((((q1.toUInt64 >>> ((16 : Int32) &&& 0x3f).toInt64.toUInt64).toInt64).toInt32).toInt8.toInt32) ((((q1.toUInt64 >>> ((24 : Int32) &&& 0x3f).toInt64.toUInt64).toInt64).toInt32).toInt8.toInt32) ((((q1.toUInt64 >>> ((32 : Int32) &&& 0x3f).toInt64.toUInt64).toInt64).toInt32).toInt8.toInt32) ((((q1.toUInt64 >>> ((40 : Int32) &&& 0x3f).toInt64.toUInt64).toInt64).toInt32).toInt8.toInt32) ((((q1.toUInt64 >>> ((48 : Int32) &&& 0x3f).toInt64.toUInt64).toInt64).toInt32).toInt8.toInt32) ((((q1.toUInt64 >>> ((56 : Int32) &&& 0x3f).toInt64.toUInt64).toInt64).toInt32).toInt8.toInt32)))]) := fun t_ k_ => go96 t_ (st97 t_ k_)
    have go100 : Go p e below s₁ F0 T97 (mkF m 47 #[vj q1, .second, vi p2, vi (8 : Int32), vr b_93, vj q1, .second] [(.int (lcmpW (f2_8 ((q1.toInt32).toInt8.toInt32) ((((q1.toUInt64 >>> ((8 : Int32) &&& 0x3f).toInt64.toUInt64).toInt64).toInt32).toInt8.toInt32) ((((q1.toUInt64 >>> ((16 : Int32) &&& 0x3f).toInt64.toUInt64).toInt64).toInt32).toInt8.toInt32) ((((q1.toUInt64 >>> ((24 : Int32) &&& 0x3f).toInt64.toUInt64).toInt64).toInt32).toInt8.toInt32) ((((q1.toUInt64 >>> ((32 : Int32) &&& 0x3f).toInt64.toUInt64).toInt64).toInt32).toInt8.toInt32) ((((q1.toUInt64 >>> ((40 : Int32) &&& 0x3f).toInt64.toUInt64).toInt64).toInt32).toInt8.toInt32) ((((q1.toUInt64 >>> ((48 : Int32) &&& 0x3f).toInt64.toUInt64).toInt64).toInt32).toInt8.toInt32) ((((q1.toUInt64 >>> ((56 : Int32) &&& 0x3f).toInt64.toUInt64).toInt64).toInt32).toInt8.toInt32)) q1))]) := by
      intro t_ k_
      refine go98 t_ ?_
      refine o_lload X97 hx (hb hby at_44) rfl ?_
      refine o_lcmp X97 hx (hb hby at_46) ?_
      exact k_
    have hd99 : (f2_8 ((q1.toInt32).toInt8.toInt32) ((((q1.toUInt64 >>> ((8 : Int32) &&& 0x3f).toInt64.toUInt64).toInt64).toInt32).toInt8.toInt32) ((((q1.toUInt64 >>> ((16 : Int32) &&& 0x3f).toInt64.toUInt64).toInt64).toInt32).toInt8.toInt32) ((((q1.toUInt64 >>> ((24 : Int32) &&& 0x3f).toInt64.toUInt64).toInt64).toInt32).toInt8.toInt32) ((((q1.toUInt64 >>> ((32 : Int32) &&& 0x3f).toInt64.toUInt64).toInt64).toInt32).toInt8.toInt32) ((((q1.toUInt64 >>> ((40 : Int32) &&& 0x3f).toInt64.toUInt64).toInt64).toInt32).toInt8.toInt32) ((((q1.toUInt64 >>> ((48 : Int32) &&& 0x3f).toInt64.toUInt64).toInt64).toInt32).toInt8.toInt32) ((((q1.toUInt64 >>> ((56 : Int32) &&& 0x3f).toInt64.toUInt64).toInt64).toInt32).toInt8.toInt32)) = q1 := own_law_8 _
    have go101 : Go p e below s₁ F0 T97 (mkF m 55 #[vj q1, .second, vi p2, vi (8 : Int32), vr b_93, vj q1, .second] [(.int (1 : Int32))]) := by
      intro t_ k_
      refine go100 t_ ?_
      refine o_ifNo X97 hx (hb hby at_47) ((if0 _ _).trans (teq ((lw_eq _ _).mpr hd99)).2) ?_
      refine o_iconst X97 hx (hb hby at_50) (v := 1) rfl ?_
      refine o_goto X97 hx (hb hby at_51) (pc' := 55) rfl (by decide) ?_
      exact k_
    obtain ⟨fs, hr, hrun, hended, hW, hsame⟩ := X97.leave (v := some (.int (1 : Int32))) (fun h => by rw [Bd.returns] at h; cases h)
    refine ⟨_, _, pre0 _ (go101 _ ?_), hrun, hended, _, _, rfl, ?_, ⟨_, rfl⟩, hW, hsame.mono (by decide) (by decide)⟩
    · skip
      exact retN X97 hx (t := .boolean) Bd.returns (by simp) (hb hby at_55) hr
    · show Q0 Z q1 p2 h0 n0 _ T97.heap _
      rw [eh97]
      exact ⟨rfl, N97⟩

set_option maxRecDepth 65536 in
set_option maxHeartbeats 40000000 in
theorem comes_1 {Post : Tables → Env → Array Value → State → Outcome → State → Prop} (hpost : ∀ tb e args s v u, (limb_1_1.after args s (.returned v) u = true ∧ limb_1_2.after args s (.returned v) u = true ∧ True) → FrameEnd s (.returned v) u (Jvm.fieldLocs frame_1_writes args s ++ Jvm.arrayLocs frame_1_arrays args s ++ Jvm.staticLocs frame_1_statics s) 16 128 → Post tb e args s (.returned v) u) :
    ArmFor flags0 classFile x code maxLocals ret World_1 tables_1 room_1 Calls_1 rest_1 Pre_1 Post := by
  intro l hfl _ _ p e ha hc hk s m args below hf hA hF happ hP
  obtain ⟨hcalls, hrest, hpre⟩ := hP
  obtain ⟨-, -, -, hnamed, -, -, -, hat⟩ := (Spec.applies_iff hf).mp happ
  obtain ⟨hg, hn⟩ := and_e (Cond.before_iff.mp (show (Jvm.Cond.and given_1 narrow_1).before args s = true from hpre))
  obtain ⟨g1, g2⟩ := and_e hg
  obtain ⟨g3, g4⟩ := and_e g2
  obtain ⟨w0, w1, rfl⟩ : ∃ w0 w1 : Value, args = #[w0, w1] := by
    have hs : args.size = 2 := by simpa [Cond.value, given_1] using g1
    obtain ⟨L⟩ := args
    match L, hs with
    | [w0, w1], _ => exact ⟨w0, w1, rfl⟩
  have hw := fun d (hd : d ∈ tables_1) => atoms_spec (ws := Jvm.Cond.code x code maxLocals ret :: tables_1) hat d (List.mem_cons_of_mem _ hd)
  have hfit : Fit s := fun {y c} hc i hi => by
    obtain ⟨ha, rfl⟩ := Array.getElem?_eq_some_iff.mp hc
    have q := List.all_eq_true.mp ((Array.all_eq_true_iff_forall_mem.mp hF) _ (Array.getElem_mem ha)) i (List.mem_range.mpr hi)
    simpa [Array.getElem?_eq_getElem hi] using q
  obtain ⟨i0, ei0⟩ := isL_v g3
  obtain rfl : w0 = (.long i0) := Option.some.inj ei0
  obtain ⟨i1, ei1⟩ := is_v g4
  obtain rfl : w1 = (.int i1) := Option.some.inj ei1
  obtain ⟨n, o, h1, h2, h3, _, L, rfl, ⟨rfl, N⟩, hq⟩ := rm0 l s _ hw tables_1 i0 i1  s.heap s.heap.size (Nat.le_refl _)  p e ha hc hk s m _ below hf ((Spec.applies_iff_loose hf).mp happ).1 ⟨rfl, State.Warmed39.refl s, rfl⟩ trivial
  refine ⟨n, _, h1, h2, h3, hpost _ _ _ _ _ _ ⟨Cond.after_iff.mpr rfl, Cond.after_iff.mpr (eq_i res_at (Term.int_eval (1)) rfl), trivial⟩ ⟨hq.1, hq.2.1, (hq.2.2.sift fun y hy => Or.inr (N y hy)).mono (by decide) (by decide)⟩⟩
theorem main_1_1 : Claimed_1_1 := comes_1 fun _ _ _ _ _ _ h hF => ⟨h.1, hF⟩
theorem main_1_2 : Claimed_1_2 := comes_1 fun _ _ _ _ _ _ h hF => ⟨h.2.1, hF⟩
end Jvm.Pilot.@@N@@
namespace Jvm.Pilot.@@N@@
open Jvm Jvm.ClassFile Sem Op Lib Jvm.Free Jvm.Stand Jvm.Pilot.@@N@@.Jvm.D
/-! MADE BY PROGRAM (witnessworld.py) out of the Statement's table words and the real class files: 12 classes; the members and pool entries that the words name. The judged class is class 1, her method 2. -/
namespace start1
open Jvm.ClassFile
def u (s : String) : CpInfo := .utf8 (stringToUtf16 s)
/-- a pool by its gaps: so many unusable entries, then the entry; so many at the end -/
def gap : Nat → List CpInfo → List CpInfo
  | 0, r => r
  | n + 1, r => .unusable :: gap n r
def poolList (es : List (Nat × CpInfo)) (last : Nat) : List CpInfo := es.foldr (fun e r => gap e.1 (e.2 :: r)) (gap last [])
def pool (es : List (Nat × CpInfo)) (last : Nat) : Array CpInfo := ⟨poolList es last⟩
def fileOf (pool : Array CpInfo) (this : Nat) (attrs : Array Attribute := #[]) (ms : Array MethodInfo := #[]) (fl : Nat := 33) (sup : Nat := 0) (ifs : Array Nat := #[]) (fds : Array FieldInfo := #[]) : ClassFile where
  minorVersion := 0
  majorVersion := 65
  constantPool := pool
  accessFlags := fl
  thisClass := this
  superClass := sup
  interfaces := ifs
  fields := fds
  methods := ms
  attributes := attrs
def plain (name : String) (sup : Option ClassId) : Class where
  name := name
  kind := .ordinary
  loader := none
  accessFlags := 33
  super := sup
  interfaces := #[]
  cf := none
  fields := #[]
  methods := #[]
  instanceTypes := #[]
  staticTypes := #[]
  resolved := #[]
  callSites := []
  init := .initialized
  statics := none
  mirror := none

def pool0 : Array CpInfo := pool [(5, u "<init>"), (0, u "()V"), (1, .class_ 10), (1, u "java/lang/Object")] 113

def k0m0 : Method := { name := "<init>", desc := "()V", sig := { parameters := [], returnType := none }, accessFlags := 1, code := none }
/-- java/lang/Object -/
def k0 : Class := { plain "java/lang/Object" none with
  accessFlags := 33
  interfaces := #[]
  cf := some (fileOf pool0 8 #[] #[{ accessFlags := 1, nameIndex := 5, descriptorIndex := 6, attributes := #[] }] 33 0 #[] #[])
  fields := #[]
  methods := #[k0m0]
  instanceTypes := #[]
  staticTypes := #[]
  resolved := Array.replicate 124 none
  statics := none }

def pool1 : Array CpInfo := pool [(2, .class_ 4), (1, u "java/lang/Object"), (0, u "<init>"), (0, u "()V"), (0, .integer 2147483647), (0, .methodref 9 10), (0, .class_ 11), (0, .nameAndType 12 13), (0, u "com/example/ledgerline/ledgerline/compression/BlockInputStreamLittleEndianPinLaw"), (0, u "bytesOf"), (0, u "(JI)[B"), (0, .methodref 15 16), (0, .class_ 17), (0, .nameAndType 18 19), (0, u "com/example/ledgerline/ledgerline/compression/BlockInputStream"), (0, u "littleEndian"), (0, u "([B)J"), (5, u "law"), (0, u "(JI)Z")] 2

def k1m0 : Method := { name := "<init>", desc := "()V", sig := { parameters := [], returnType := none }, accessFlags := 1, code := none }
def k1c1 : Code := { maxStack := 5, maxLocals := 4, code := method_2_code, exceptionTable := #[], attributes := #[] }
def k1m1 : Method := { name := "bytesOf", desc := "(JI)[B", sig := { parameters := [.long, .int], returnType := some (.array .byte) }, accessFlags := 10, code := some k1c1 }
def k1c2 : Code := { maxStack := 6, maxLocals := 7, code := code, exceptionTable := #[], attributes := #[] }
def k1m2 : Method := { name := "law", desc := "(JI)Z", sig := { parameters := [.long, .int], returnType := some .boolean }, accessFlags := 9, code := some k1c2 }
/-- com/example/ledgerline/ledgerline/compression/BlockInputStreamLittleEndianPinLaw -/
def k1 : Class := { plain "com/example/ledgerline/ledgerline/compression/BlockInputStreamLittleEndianPinLaw" (some 0) with
  accessFlags := 49
  interfaces := #[]
  cf := some (fileOf pool1 9 #[] #[{ accessFlags := 1, nameIndex := 5, descriptorIndex := 6, attributes := #[] }, { accessFlags := 10, nameIndex := 12, descriptorIndex := 13, attributes := #[] }, { accessFlags := 9, nameIndex := 25, descriptorIndex := 26, attributes := #[] }] 49 2 #[] #[])
  fields := #[]
  methods := #[k1m0, k1m1, k1m2]
  instanceTypes := #[]
  staticTypes := #[]
  resolved := Array.replicate 29 none
  statics := none }

def pool2 : Array CpInfo := pool [(1, .class_ 2), (0, u "java/lang/AutoCloseable"), (0, .class_ 4), (0, u "java/lang/Object")] 7

/-- java/lang/AutoCloseable -/
def k2 : Class := { plain "java/lang/AutoCloseable" (some 0) with
  accessFlags := 1537
  interfaces := #[]
  cf := some (fileOf pool2 1 #[] #[] 1537 3 #[] #[])
  fields := #[]
  methods := #[]
  instanceTypes := #[]
  staticTypes := #[]
  resolved := Array.replicate 12 none
  statics := none }

def pool3 : Array CpInfo := pool [(1, .class_ 2), (0, u "java/io/Closeable"), (0, .class_ 4), (0, u "java/lang/Object"), (0, .class_ 6), (0, u "java/lang/AutoCloseable")] 7

/-- java/io/Closeable -/
def k3 : Class := { plain "java/io/Closeable" (some 0) with
  accessFlags := 1537
  interfaces := #[2]
  cf := some (fileOf pool3 1 #[] #[] 1537 3 #[5] #[])
  fields := #[]
  methods := #[]
  instanceTypes := #[]
  staticTypes := #[]
  resolved := Array.replicate 14 none
  statics := none }

def pool4 : Array CpInfo := pool [(4, .class_ 6), (1, u "java/lang/Object"), (0, u "<init>"), (0, u "()V"), (0, .class_ 10), (0, u "java/io/InputStream$1"), (2, .class_ 15), (1, u "java/io/InputStream"), (116, .class_ 133), (0, u "java/io/Closeable"), (0, u "MAX_SKIP_BUFFER_SIZE"), (0, u "I"), (2, u "DEFAULT_BUFFER_SIZE"), (1, u "MAX_BUFFER_SIZE")] 54

def k4m0 : Method := { name := "<init>", desc := "()V", sig := { parameters := [], returnType := none }, accessFlags := 1, code := none }
/-- java/io/InputStream -/
def k4 : Class := { plain "java/io/InputStream" (some 0) with
  accessFlags := 1057
  interfaces := #[3]
  cf := some (fileOf pool4 13 #[.nestMembers #[9]] #[{ accessFlags := 1, nameIndex := 7, descriptorIndex := 8, attributes := #[] }] 1057 4 #[132] #[{ accessFlags := 26, nameIndex := 134, descriptorIndex := 135, attributes := #[] }, { accessFlags := 26, nameIndex := 138, descriptorIndex := 135, attributes := #[] }, { accessFlags := 26, nameIndex := 140, descriptorIndex := 135, attributes := #[] }])
  fields := #[{ name := "MAX_SKIP_BUFFER_SIZE", type := .int, accessFlags := 26, slot := 0, constantValue := 0 }, { name := "DEFAULT_BUFFER_SIZE", type := .int, accessFlags := 26, slot := 1, constantValue := 0 }, { name := "MAX_BUFFER_SIZE", type := .int, accessFlags := 26, slot := 2, constantValue := 0 }]
  methods := #[k4m0]
  instanceTypes := #[]
  staticTypes := #[.int, .int, .int]
  resolved := Array.replicate 195 none
  statics := none }

def pool5 : Array CpInfo := pool [(2, .class_ 4), (1, u "java/io/InputStream"), (3, .class_ 10), (1, u "com/example/ledgerline/ledgerline/compression/BlockInputStream"), (0, u "decoded"), (0, u "[B"), (2, u "in"), (0, u "Ljava/io/InputStream;"), (2, u "inputName"), (0, u "Ljava/lang/String;"), (2, u "position"), (0, u "I"), (2, u "end"), (26, u "littleEndian"), (0, u "([B)J")] 54

def k5c0 : Code := { maxStack := 4, maxLocals := 4, code := prog_3_method_9_code, exceptionTable := #[], attributes := #[] }
def k5m0 : Method := { name := "littleEndian", desc := "([B)J", sig := { parameters := [(.array .byte)], returnType := some .long }, accessFlags := 8, code := some k5c0 }
/-- com/example/ledgerline/ledgerline/compression/BlockInputStream -/
def k5 : Class := { plain "com/example/ledgerline/ledgerline/compression/BlockInputStream" (some 4) with
  accessFlags := 1056
  interfaces := #[]
  cf := some (fileOf pool5 8 #[] #[{ accessFlags := 8, nameIndex := 54, descriptorIndex := 55, attributes := #[] }] 1056 2 #[] #[{ accessFlags := 20, nameIndex := 15, descriptorIndex := 16, attributes := #[] }, { accessFlags := 18, nameIndex := 19, descriptorIndex := 20, attributes := #[] }, { accessFlags := 2, nameIndex := 11, descriptorIndex := 12, attributes := #[] }, { accessFlags := 2, nameIndex := 23, descriptorIndex := 24, attributes := #[] }, { accessFlags := 2, nameIndex := 27, descriptorIndex := 24, attributes := #[] }])
  fields := #[{ name := "in", type := (.object "java/io/InputStream"), accessFlags := 20, slot := 0, constantValue := 0 }, { name := "inputName", type := (.object "java/lang/String"), accessFlags := 18, slot := 1, constantValue := 0 }, { name := "decoded", type := (.array .byte), accessFlags := 2, slot := 2, constantValue := 0 }, { name := "position", type := .int, accessFlags := 2, slot := 3, constantValue := 0 }, { name := "end", type := .int, accessFlags := 2, slot := 4, constantValue := 0 }]
  methods := #[k5m0]
  instanceTypes := #[(.object "java/io/InputStream"), (.object "java/lang/String"), (.array .byte), .int, .int]
  staticTypes := #[]
  resolved := Array.replicate 110 none
  statics := none }

def pool6 : Array CpInfo := pool [(1, u "java/lang/Cloneable"), (0, .class_ 1), (0, u "java/lang/Object"), (0, .class_ 3)] 3

/-- java/lang/Cloneable -/
def k6 : Class := { plain "java/lang/Cloneable" (some 0) with
  accessFlags := 1537
  interfaces := #[]
  cf := some (fileOf pool6 2 #[] #[] 1537 4 #[] #[])
  fields := #[]
  methods := #[]
  instanceTypes := #[]
  staticTypes := #[]
  resolved := Array.replicate 8 none
  statics := none }

def pool7 : Array CpInfo := pool [(1, u "java/io/Serializable"), (0, .class_ 1), (0, u "java/lang/Object"), (0, .class_ 3)] 3

/-- java/io/Serializable -/
def k7 : Class := { plain "java/io/Serializable" (some 0) with
  accessFlags := 1537
  interfaces := #[]
  cf := some (fileOf pool7 2 #[] #[] 1537 4 #[] #[])
  fields := #[]
  methods := #[]
  instanceTypes := #[]
  staticTypes := #[]
  resolved := Array.replicate 8 none
  statics := none }

/-- the primitive byte -/
def k8 : Class := { plain "byte" none with kind := .primitive 'B', accessFlags := 0x411 }
/-- [B -/
def k9 : Class := { plain "[B" (some 0) with kind := .array 8 .byte, interfaces := #[6, 7], accessFlags := 1041 }

/-- the primitive int -/
def k10 : Class := { plain "int" none with kind := .primitive 'I', accessFlags := 0x411 }
/-- [I -/
def k11 : Class := { plain "[I" (some 0) with kind := .array 10 .int, interfaces := #[6, 7], accessFlags := 1041 }

def heap : Heap := #[]
def classes : Array Class := #[k0, k1, k2, k3, k4, k5, k6, k7, k8, k9, k10, k11]
def interned : List (Array UInt16 × Addr) := []
def slotsUsed : Nat := 0
def theMethod : MethodId := ⟨1, 2⟩
def args0 : Array Value := #[.long 5, .int 5]
def aboutOver (below : List Frame) : State where
  vm := { classes := classes, interned := interned.toArray }
  heap := heap
  slotsUsed := slotsUsed
  threads := #[{ frames := .invoking theMethod args0 :: below }]
def below0 : List Frame := [.native { method := ⟨0, 0⟩, args := #[] }]
def about1 : State := aboutOver below0
def p0 : Program := .bare "" "" ""
def e0 : Env := launch0.env 0 0 0
theorem w_frames : about1.frames = Frame.invoking theMethod args0 :: below0 := rfl
set_option maxRecDepth 65536 in
theorem w_args : argsFit about1.vm theMethod args0 = true := by decide +kernel
set_option maxRecDepth 65536 in
theorem w_heap : heapFits about1 = true := by decide +kernel
set_option maxRecDepth 65536 in
theorem w_runnable : about1.curStatus? = some .runnable := by decide +kernel
set_option maxRecDepth 65536 in
theorem w_alone : about1.alone = true := by decide +kernel
set_option maxRecDepth 65536 in
theorem w_named : about1.methodNamed? x = some theMethod := by decide +kernel
set_option maxRecDepth 65536 in
theorem w_hears : about1.hears theMethod below0 = true := by decide +kernel
set_option maxRecDepth 65536 in
theorem w_ripe : about1.ripe theMethod args0 below0 = true := by decide +kernel
theorem w_running : about1.status = .running := rfl
set_option maxRecDepth 65536 in
theorem w_room : about1.hasRoom e0.platform room_1 = true :=
  launch0.hasRoom_least _ room_1 (by decide +kernel) (by decide +kernel) (by decide +kernel) (by decide +kernel) (by decide +kernel) (by decide +kernel)
theorem allAtoms_all (ts : List Jvm.Cond) (a : Array Jvm.Value) (st : Jvm.State) : (allAtoms ts).before a st = ts.all (fun c => c.before a st) := by
  induction ts with
  | nil => rfl
  | cons c t ih =>
    show (Jvm.Cond.and c (allAtoms t)).before a st = _
    rw [Jvm.Cond.before_and, ih, List.all_cons]
def words1 : List Jvm.Cond := Jvm.Cond.code x code maxLocals ret :: tables_1
/-- a 'code' word, met by the world's own term for the bytes: nothing is compared byte by byte -/
theorem code_word {y : MethodName} {bytes : ByteArray} {mx : Nat} {rt : Option FieldType} {a : Array Value} {s : State} {m : MethodId} {meth : Method} {c : Code} (h1 : s.methodNamed? y = some m) (h2 : s.vm.method? m = some meth) (h3 : meth.code = some c) (h4 : c.code = bytes)
    (h5 : (c.maxLocals == mx && c.exceptionTable.isEmpty && decide (c.maxStack ≤ mostOperands) && decide (meth.sig.returnType = rt) && !meth.locks && decide (parseMethodDescriptor y.desc = some meth.sig)) = true) : (Jvm.Cond.code y bytes mx rt).before a s = true := by
  simp only [Bool.and_eq_true, beq_iff_eq, Bool.not_eq_true', decide_eq_true_eq] at h5
  obtain ⟨⟨⟨⟨⟨g1, g2⟩, g3⟩, g4⟩, g5⟩, g6⟩ := h5
  simp [Cond.before, Cond.holds, Cond.value, h1, h2, h3, h4, g1, g2, g3, g4, g5, g6]
def isCode : Jvm.Cond → Bool
  | .code _ _ _ _ => true
  | _ => false
theorem all_split {L : List Jvm.Cond} {P : Jvm.Cond → Bool} (h1 : L.all (fun c => isCode c || P c) = true) (h2 : ∀ c ∈ L.filter isCode, P c = true) : L.all P = true := by
  refine List.all_eq_true.mpr fun c hc => ?_
  have h := List.all_eq_true.mp h1 c hc
  rcases Bool.eq_false_or_eq_true (isCode c) with hi | hi
  · exact h2 c (List.mem_filter.mpr ⟨hc, hi⟩)
  · simpa [hi] using h
set_option maxRecDepth 65536 in
theorem w_c0 : (Jvm.Cond.code x code maxLocals ret).before args0 about1 = true := code_word (m := ⟨1, 2⟩) (meth := k1m2) (c := k1c2) (by decide +kernel) rfl rfl rfl (by decide +kernel)
set_option maxRecDepth 65536 in
theorem w_c1 : (Jvm.Cond.code ({ cls := "com/example/ledgerline/ledgerline/compression/BlockInputStreamLittleEndianPinLaw", name := "bytesOf", desc := "(JI)[B" } : Jvm.MethodName) method_2_code (4 : Nat) (Option.some (Jvm.ClassFile.FieldType.array Jvm.ClassFile.FieldType.byte))).before args0 about1 = true := code_word (m := ⟨1, 1⟩) (meth := k1m1) (c := k1c1) (by decide +kernel) rfl rfl rfl (by decide +kernel)
set_option maxRecDepth 65536 in
theorem w_c2 : (Jvm.Cond.code ({ cls := "com/example/ledgerline/ledgerline/compression/BlockInputStream", name := "littleEndian", desc := "([B)J" } : Jvm.MethodName) prog_3_method_9_code (4 : Nat) (Option.some Jvm.ClassFile.FieldType.long)).before args0 about1 = true := code_word (m := ⟨5, 0⟩) (meth := k5m0) (c := k5c0) (by decide +kernel) rfl rfl rfl (by decide +kernel)
def codes1 : List Jvm.Cond := [Jvm.Cond.code x code maxLocals ret, Jvm.Cond.code ({ cls := "com/example/ledgerline/ledgerline/compression/BlockInputStreamLittleEndianPinLaw", name := "bytesOf", desc := "(JI)[B" } : Jvm.MethodName) method_2_code (4 : Nat) (Option.some (Jvm.ClassFile.FieldType.array Jvm.ClassFile.FieldType.byte)), Jvm.Cond.code ({ cls := "com/example/ledgerline/ledgerline/compression/BlockInputStream", name := "littleEndian", desc := "([B)J" } : Jvm.MethodName) prog_3_method_9_code (4 : Nat) (Option.some Jvm.ClassFile.FieldType.long)]
set_option maxRecDepth 65536 in
theorem codes_eq : words1.filter isCode = codes1 := rfl
theorem w_codes : ∀ c ∈ words1.filter isCode, c.before args0 about1 = true := by
  rw [codes_eq]
  intro c hc
  simp only [codes1, List.mem_cons, List.not_mem_nil, or_false] at hc
  rcases hc with rfl | rfl | rfl
  · exact w_c0
  · exact w_c1
  · exact w_c2
set_option maxRecDepth 65536 in
theorem w_t1 : words1.all (fun c => isCode c || c.before args0 about1) = true := by decide +kernel
theorem w_tables : (allAtoms (Jvm.Cond.code x code maxLocals ret :: tables_1)).before args0 about1 = true := by
  rw [allAtoms_all]
  show words1.all (fun c => c.before args0 about1) = true
  refine all_split ?_ w_codes
  rw [w_t1]
set_option maxRecDepth 65536 in
theorem w_case : (Jvm.Cond.and given_1 narrow_1).before args0 about1 = true := by decide +kernel
theorem w_applies : (headSpec (Jvm.Cond.code x code maxLocals ret :: tables_1) room_1).applies x e0.platform about1 = true :=
  (Spec.applies_iff w_frames).mpr ⟨w_running, w_runnable, w_alone, w_named, w_hears, w_ripe, w_room, w_tables⟩
theorem atStart : AtStart classFile x code maxLocals ret World_1 tables_1 room_1 Calls_1 rest_1 Pre_1 launch0 p0 e0 about1 theMethod args0 below0 :=
  ⟨lists_1, trivial, launch0.admits_env _ _ _, launch0.least_env, fairChoices_fair.cas, fairChoices_fair.clock, w_frames, w_args, w_heap, w_applies, trivial, trivial, w_case⟩
end start1
theorem witness_1 : WitnessClaimed_1 := ⟨start1.p0, start1.e0, start1.about1, start1.theMethod, start1.args0, start1.below0, start1.atStart⟩
end Jvm.Pilot.@@N@@
