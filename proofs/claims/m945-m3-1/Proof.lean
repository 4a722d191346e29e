import JvmDerived
import JvmDerived.Pilot.@@N@@Statement
import JvmDerived.Pilot.@@N@@Code
set_option linter.unusedVariables false
set_option linter.unusedSimpArgs false

namespace Jvm.RoadKit
open Sem ClassFile Op Lib Jvm.Stand Jvm.Free Jvm.LawKit
section New
variable {p : Program} {l : Launch} {e : Env} {R : Room} {s : State} {m : MethodId} {args : Array Value} {below : List Frame} {meth : Method} {c : Code} {T : State} {locs : List Loc} {cells slots : Nat}
theorem retI (X : Stand p l e R s m args below meth c T locs cells slots) (hx : p.tables.exec = Jvm.exec) {pc : Nat} {Ls : Array Slot} {z : Int32} {rest : List Value} (hret : meth.sig.returnType = some .int) (hd : decode c.code pc = .ok (.ireturn, 1)) {fs : List Frame}
    (hl : ∀ (f : JFrame) (acts : List Action), f.method = m → f.locked = none → f.entered = [] → (doReturn e (T.setTop f) acts (some (.int z))).1 = T.setFrames fs) : Steps p.tables e below (T.setTop (mkF m pc Ls (.int z :: rest))) (T.setFrames fs) := by
  have hm' : T.vm.method? m = some meth := X.method'
  have hn : narrow .int (.int z) = .int z := rfl
  show Steps p.tables e below (T.setTop { method := m, pc := pc, locals := Ls, stack := _ :: rest, locked := none }) _
  jvm_step X.here [X.here.top, hx, hd, hm', hret, hn]
  first | (intro acts; rw [hl _ acts rfl rfl rfl]) | rw [hl _ _ rfl rfl rfl]
  exact Steps.refl _
end New
end Jvm.RoadKit
namespace Jvm.Pilot.@@N@@
open Jvm Jvm.ClassFile Sem Op Lib Jvm.Free Jvm.Stand Jvm.LawKit Jvm.RoadKit Bundle Jvm.Pilot.@@N@@.Jvm.D
abbrev y_0 : MethodName := ⟨"com/example/glottis/glottis/audio/Audio", "put", "([BIS)V"⟩
abbrev y_1 : MethodName := ⟨"com/example/glottis/glottis/audio/Audio", "bytes", "([S)[B"⟩
abbrev y_2 : MethodName := ⟨"com/example/glottis/glottis/audio/AudioBytesPinLaw", "pair", "([BIIS)Z"⟩
abbrev own_zl (n : Nat) : List Value := List.replicate n (.long (0 : Int64))
abbrev own_zi (n : Nat) : List Value := List.replicate n (.int (0 : Int32))
abbrev own_zr (n : Nat) : List Value := List.replicate n .null
abbrev vi (x : Int32) : Slot := .val (.int x)
abbrev vj (x : Int64) : Slot := .val (.long x)
abbrev vr (x : Addr) : Slot := .val (.ref x)
section Steps
variable {p : Program} {l : Launch} {e : Env} {R : Room} {s : State} {m : MethodId} {args : Array Value} {below : List Frame} {meth : Method} {c : Code} {T : State} {locs : List Loc} {cells slots : Nat} {pc pc' : Nat} {Ls L' : Array Slot} {S : List Value} {t : State} {Z : State} {h : Heap} {a : Addr} {cl : Cell}
abbrev Go (p : Program) (e : Env) (below : List Frame) (T0 : State) (g0 : JFrame) (T : State) (g : JFrame) : Prop := ∀ t, Steps p.tables e below (T.setTop g) t → Steps p.tables e below (T0.setTop g0) t
theorem own_w {Z : State} {a0 : Array Value} (hw : ∀ d ∈ tables_1, d.before a0 Z = true) (k : Nat) {d : Jvm.Cond} (h : tables_1[k]? = some d) : d.before a0 Z = true := hw _ (List.mem_of_getElem? h)
theorem o_iloadN (X : Stand p l e R s m args below meth c T locs cells slots) (hx : p.tables.exec = Jvm.exec) {i : Fin 4} {v : Int32} (hd : decode c.code pc = .ok (.iload_n i, 1)) (hl : Ls[i.val]? = some (.val (.int v))) (k : Steps p.tables e below (T.setTop (mkF m (pc + 1) Ls (.int v :: S))) t) : Steps p.tables e below (T.setTop (mkF m pc Ls (S))) t := XS.iloadN X.here hx rfl hd hl k
theorem o_iload (X : Stand p l e R s m args below meth c T locs cells slots) (hx : p.tables.exec = Jvm.exec) {i : Nat} {v : Int32} (hd : decode c.code pc = .ok (.iload i, 2)) (hl : Ls[i]? = some (.val (.int v))) (k : Steps p.tables e below (T.setTop (mkF m (pc + 2) Ls (.int v :: S))) t) : Steps p.tables e below (T.setTop (mkF m pc Ls (S))) t := XS.iload X.here hx rfl hd hl k
theorem o_aloadN (X : Stand p l e R s m args below meth c T locs cells slots) (hx : p.tables.exec = Jvm.exec) {i : Fin 4} {v : Value} (hd : decode c.code pc = .ok (.aload_n i, 1)) (hl : Ls[i.val]? = some (.val v)) (hv : v.isRef = true) (k : Steps p.tables e below (T.setTop (mkF m (pc + 1) Ls (v :: S))) t) : Steps p.tables e below (T.setTop (mkF m pc Ls (S))) t := XS.aloadN X.here hx rfl hd hl hv k
theorem o_aload (X : Stand p l e R s m args below meth c T locs cells slots) (hx : p.tables.exec = Jvm.exec) {i : Nat} {v : Value} (hd : decode c.code pc = .ok (.aload i, 2)) (hl : Ls[i]? = some (.val v)) (hv : v.isRef = true) (k : Steps p.tables e below (T.setTop (mkF m (pc + 2) Ls (v :: S))) t) : Steps p.tables e below (T.setTop (mkF m pc Ls (S))) t := XS.aload X.here hx rfl hd hl hv k
theorem o_istoreN (X : Stand p l e R s m args below meth c T locs cells slots) (hx : p.tables.exec = Jvm.exec) {i : Fin 4} {v : Int32} (hd : decode c.code pc = .ok (.istore_n i, 1)) (hl : storeLocals Ls i.val (.int v) = some L') (k : Steps p.tables e below (T.setTop (mkF m (pc + 1) L' (S))) t) : Steps p.tables e below (T.setTop (mkF m pc Ls (.int v :: S))) t := XS.istoreN X.here hx rfl hd rfl hl k
theorem o_istore (X : Stand p l e R s m args below meth c T locs cells slots) (hx : p.tables.exec = Jvm.exec) {i : Nat} {v : Int32} (hd : decode c.code pc = .ok (.istore i, 2)) (hl : storeLocals Ls i (.int v) = some L') (k : Steps p.tables e below (T.setTop (mkF m (pc + 2) L' (S))) t) : Steps p.tables e below (T.setTop (mkF m pc Ls (.int v :: S))) t := XS.istore X.here hx rfl hd rfl hl k
theorem o_astoreN (X : Stand p l e R s m args below meth c T locs cells slots) (hx : p.tables.exec = Jvm.exec) {i : Fin 4} {v : Value} (hd : decode c.code pc = .ok (.astore_n i, 1)) (hv : v.isRef = true) (hl : storeLocals Ls i.val v = some L') (k : Steps p.tables e below (T.setTop (mkF m (pc + 1) L' (S))) t) : Steps p.tables e below (T.setTop (mkF m pc Ls (v :: S))) t := XS.astoreN X.here hx rfl hd rfl hv hl k
theorem o_astore (X : Stand p l e R s m args below meth c T locs cells slots) (hx : p.tables.exec = Jvm.exec) {i : Nat} {v : Value} (hd : decode c.code pc = .ok (.astore i, 2)) (hv : v.isRef = true) (hl : storeLocals Ls i v = some L') (k : Steps p.tables e below (T.setTop (mkF m (pc + 2) L' (S))) t) : Steps p.tables e below (T.setTop (mkF m pc Ls (v :: S))) t := XS.astore X.here hx rfl hd rfl hv hl k
theorem o_iconst (X : Stand p l e R s m args below meth c T locs cells slots) (hx : p.tables.exec = Jvm.exec) {i : Int} {v : Int32} (hd : decode c.code pc = .ok (.iconst i, 1)) (hv : v = Int32.ofInt i) (k : Steps p.tables e below (T.setTop (mkF m (pc + 1) Ls (.int v :: S))) t) : Steps p.tables e below (T.setTop (mkF m pc Ls (S))) t := XS.iconst X.here hx rfl hd (hv ▸ k)
theorem o_bipush (X : Stand p l e R s m args below meth c T locs cells slots) (hx : p.tables.exec = Jvm.exec) {i : Int} {v : Int32} (hd : decode c.code pc = .ok (.bipush i, 2)) (hv : v = (Int8.ofInt i).toInt32) (k : Steps p.tables e below (T.setTop (mkF m (pc + 2) Ls (.int v :: S))) t) : Steps p.tables e below (T.setTop (mkF m pc Ls (S))) t := XS.bipush X.here hx rfl hd (hv ▸ k)
theorem o_sipush (X : Stand p l e R s m args below meth c T locs cells slots) (hx : p.tables.exec = Jvm.exec) {i : Int} {v : Int32} (hd : decode c.code pc = .ok (.sipush i, 3)) (hv : v = (Int16.ofInt i).toInt32) (k : Steps p.tables e below (T.setTop (mkF m (pc + 3) Ls (.int v :: S))) t) : Steps p.tables e below (T.setTop (mkF m pc Ls (S))) t := XS.sipush X.here hx rfl hd (hv ▸ k)
theorem o_ldc (X : Stand p l e R s m args below meth c T locs cells slots) (hx : p.tables.exec = Jvm.exec) {own : String} {i : Nat} {v : Int32} (ho : s.vm.findClass own = some m.cls) (w : (Cond.constant own i v).before args s = true) (hd : decode c.code pc = .ok (.ldc i, 2))  (k : Steps p.tables e below (T.setTop (mkF m (pc + 2) Ls (.int v :: S))) t) : Steps p.tables e below (T.setTop (mkF m pc Ls (S))) t := X.ldcInt hx ho w (g := mkF m pc Ls S) rfl hd _ k
theorem o_iadd (X : Stand p l e R s m args below meth c T locs cells slots) (hx : p.tables.exec = Jvm.exec) {x y : Int32} (hd : decode c.code pc = .ok (.iadd, 1))  (k : Steps p.tables e below (T.setTop (mkF m (pc + 1) Ls (.int (x + y) :: S))) t) : Steps p.tables e below (T.setTop (mkF m pc Ls (.int y :: .int x :: S))) t := XS.iadd X.here hx rfl hd rfl k
theorem o_iaddE (X : Stand p l e R s m args below meth c T locs cells slots) (hx : p.tables.exec = Jvm.exec) {x y v : Int32} (hd : decode c.code pc = .ok (.iadd, 1)) (hv : v = x + y) (k : Steps p.tables e below (T.setTop (mkF m (pc + 1) Ls (.int v :: S))) t) : Steps p.tables e below (T.setTop (mkF m pc Ls (.int y :: .int x :: S))) t := XS.iadd X.here hx rfl hd rfl (hv ▸ k)
theorem o_imul (X : Stand p l e R s m args below meth c T locs cells slots) (hx : p.tables.exec = Jvm.exec) {x y : Int32} (hd : decode c.code pc = .ok (.imul, 1))  (k : Steps p.tables e below (T.setTop (mkF m (pc + 1) Ls (.int (x * y) :: S))) t) : Steps p.tables e below (T.setTop (mkF m pc Ls (.int y :: .int x :: S))) t := XS.imul X.here hx rfl hd rfl k
theorem o_imulE (X : Stand p l e R s m args below meth c T locs cells slots) (hx : p.tables.exec = Jvm.exec) {x y v : Int32} (hd : decode c.code pc = .ok (.imul, 1)) (hv : v = x * y) (k : Steps p.tables e below (T.setTop (mkF m (pc + 1) Ls (.int v :: S))) t) : Steps p.tables e below (T.setTop (mkF m pc Ls (.int y :: .int x :: S))) t := XS.imul X.here hx rfl hd rfl (hv ▸ k)
theorem o_iand (X : Stand p l e R s m args below meth c T locs cells slots) (hx : p.tables.exec = Jvm.exec) {x y : Int32} (hd : decode c.code pc = .ok (.iand, 1))  (k : Steps p.tables e below (T.setTop (mkF m (pc + 1) Ls (.int (x &&& y) :: S))) t) : Steps p.tables e below (T.setTop (mkF m pc Ls (.int y :: .int x :: S))) t := XS.iand X.here hx rfl hd rfl k
theorem o_i2b (X : Stand p l e R s m args below meth c T locs cells slots) (hx : p.tables.exec = Jvm.exec) {x : Int32} (hd : decode c.code pc = .ok (.i2b, 1))  (k : Steps p.tables e below (T.setTop (mkF m (pc + 1) Ls (.int (x.toInt8.toInt32) :: S))) t) : Steps p.tables e below (T.setTop (mkF m pc Ls (.int x :: S))) t := XS.i2b X.here hx rfl hd rfl k
theorem o_i2s (X : Stand p l e R s m args below meth c T locs cells slots) (hx : p.tables.exec = Jvm.exec) {x : Int32} (hd : decode c.code pc = .ok (.i2s, 1))  (k : Steps p.tables e below (T.setTop (mkF m (pc + 1) Ls (.int (x.toInt16.toInt32) :: S))) t) : Steps p.tables e below (T.setTop (mkF m pc Ls (.int x :: S))) t := XS.i2s X.here hx rfl hd rfl k
theorem o_ishr (X : Stand p l e R s m args below meth c T locs cells slots) (hx : p.tables.exec = Jvm.exec) {x : Int32} {y : Int32} (hd : decode c.code pc = .ok (.ishr, 1))  (k : Steps p.tables e below (T.setTop (mkF m (pc + 1) Ls (.int (x >>> (y &&& 31)) :: S))) t) : Steps p.tables e below (T.setTop (mkF m pc Ls (.int y :: .int x :: S))) t := XS.ishr X.here hx rfl hd rfl k
theorem o_iinc (X : Stand p l e R s m args below meth c T locs cells slots) (hx : p.tables.exec = Jvm.exec) {i : Nat} {cst : Int} {x : Int32} (hd : decode c.code pc = .ok (.iinc i cst, 3)) (hl : Ls[i]? = some (.val (.int x))) (hl' : storeLocals Ls i (.int (x + Int32.ofInt cst)) = some L') (k : Steps p.tables e below (T.setTop (mkF m (pc + 3) L' (S))) t) : Steps p.tables e below (T.setTop (mkF m pc Ls (S))) t := XS.iinc X.here hx rfl hd hl hl' k
theorem o_goto (X : Stand p l e R s m args below meth c T locs cells slots) (hx : p.tables.exec = Jvm.exec) {o : Int} (hd : decode c.code pc = .ok (.goto o, 3)) (hp : ((pc : Int) + o).toNat = pc') (ho : 0 ≤ (pc : Int) + o) (k : Steps p.tables e below (T.setTop (mkF m (pc') Ls (S))) t) : Steps p.tables e below (T.setTop (mkF m pc Ls (S))) t := XS.goto X.here hx rfl rfl hd ho hp k
theorem o_ifYes (X : Stand p l e R s m args below meth c T locs cells slots) (hx : p.tables.exec = Jvm.exec) {cd : ClassFile.Cond} {x : Int32} {o : Int} (hd : decode c.code pc = .ok (.ifCond cd o, 3)) (hp : ((pc : Int) + o).toNat = pc') (ho : 0 ≤ (pc : Int) + o) (hc : ifCond.holds cd x = true) (k : Steps p.tables e below (T.setTop (mkF m (pc') Ls (S))) t) : Steps p.tables e below (T.setTop (mkF m pc Ls (.int x :: S))) t := XS.ifYes X.here hx rfl rfl hd rfl hc ho hp k
theorem o_ifNo (X : Stand p l e R s m args below meth c T locs cells slots) (hx : p.tables.exec = Jvm.exec) {cd : ClassFile.Cond} {x : Int32} {o : Int} (hd : decode c.code pc = .ok (.ifCond cd o, 3)) (hc : ifCond.holds cd x = false) (k : Steps p.tables e below (T.setTop (mkF m (pc + 3) Ls (S))) t) : Steps p.tables e below (T.setTop (mkF m pc Ls (.int x :: S))) t := XS.ifNo X.here hx rfl hd rfl hc k
theorem o_icmpYes (X : Stand p l e R s m args below meth c T locs cells slots) (hx : p.tables.exec = Jvm.exec) {cd : ClassFile.Cond} {x y : Int32} {o : Int} (hd : decode c.code pc = .ok (.if_icmp cd o, 3)) (hp : ((pc : Int) + o).toNat = pc') (ho : 0 ≤ (pc : Int) + o) (hc : if_icmp.holds cd x y = true) (k : Steps p.tables e below (T.setTop (mkF m (pc') Ls (S))) t) : Steps p.tables e below (T.setTop (mkF m pc Ls (.int y :: .int x :: S))) t := XS.icmpYes X.here hx rfl rfl hd rfl hc ho hp k
theorem o_icmpNo (X : Stand p l e R s m args below meth c T locs cells slots) (hx : p.tables.exec = Jvm.exec) {cd : ClassFile.Cond} {x y : Int32} {o : Int} (hd : decode c.code pc = .ok (.if_icmp cd o, 3)) (hc : if_icmp.holds cd x y = false) (k : Steps p.tables e below (T.setTop (mkF m (pc + 3) Ls (S))) t) : Steps p.tables e below (T.setTop (mkF m pc Ls (.int y :: .int x :: S))) t := XS.icmpNo X.here hx rfl hd rfl hc k
theorem o_ifnullNo (X : Stand p l e R s m args below meth c T locs cells slots) (hx : p.tables.exec = Jvm.exec) {b : Addr} {o : Int} (hd : decode c.code pc = .ok (.ifnull o, 3))  (k : Steps p.tables e below (T.setTop (mkF m (pc + 3) Ls (S))) t) : Steps p.tables e below (T.setTop (mkF m pc Ls (.ref b :: S))) t := XS.ifnullNo X.here hx rfl hd rfl k
theorem o_len (X : Stand p l e R s m args below meth c T locs cells slots) (hx : p.tables.exec = Jvm.exec) (hZ : Z.Warmed39 s.vm) (eT : T.heap = h) {ty : FieldType} {z : Int32} (A : Arr Z h a cl ty) (Sz : cl.slots.size = z.toNatClampNeg) (Nn : ¬ z < 0) (hd : decode c.code pc = .ok (.arraylength, 1))  (k : Steps p.tables e below (T.setTop (mkF m (pc + 1) Ls (.int z :: S))) t) : Steps p.tables e below (T.setTop (mkF m pc Ls (.ref a :: S))) t := X.arraylength hx (by rw [eT]; exact A.1) (State.isArrayOf_alike hZ.alike A.2.1) (g := mkF m pc Ls (.ref a :: S)) rfl rfl hd _ (by rw [len_of Sz Nn]; exact k)
theorem o_baload (X : Stand p l e R s m args below meth c T locs cells slots) (hx : p.tables.exec = Jvm.exec) (hZ : Z.Warmed39 s.vm) (eT : T.heap = h) {j : Int32} {v : Int32} (A : Arr Z h a cl .byte) (hin : ¬ (j < 0 ∨ cl.slots.size ≤ j.toNatClampNeg)) (hat : cl.slots[j.toNatClampNeg]? = some (.int v)) (hd : decode c.code pc = .ok (.baload, 1))  (k : Steps p.tables e below (T.setTop (mkF m (pc + 1) Ls (.int v :: S))) t) : Steps p.tables e below (T.setTop (mkF m pc Ls (.int j :: .ref a :: S))) t := X.baloadBytes hx (j := j) (v := .int v) (by rw [eT]; exact A.1) (State.isArrayOf_alike hZ.alike A.2.1) A.2.2 hin hat (g := mkF m pc Ls (.int j :: .ref a :: S)) rfl rfl hd _ k
theorem o_saload (X : Stand p l e R s m args below meth c T locs cells slots) (hx : p.tables.exec = Jvm.exec) (hZ : Z.Warmed39 s.vm) (eT : T.heap = h) {j : Int32} {v : Int32} (A : Arr Z h a cl .short) (hin : ¬ (j < 0 ∨ cl.slots.size ≤ j.toNatClampNeg)) (hat : cl.slots[j.toNatClampNeg]? = some (.int v)) (hd : decode c.code pc = .ok (.saload, 1))  (k : Steps p.tables e below (T.setTop (mkF m (pc + 1) Ls (.int v :: S))) t) : Steps p.tables e below (T.setTop (mkF m pc Ls (.int j :: .ref a :: S))) t := X.saload hx (j := j) (v := .int v) (by rw [eT]; exact A.1) (State.isArrayOf_alike hZ.alike A.2.1) A.2.2 hin hat (g := mkF m pc Ls (.int j :: .ref a :: S)) rfl rfl hd _ k
end Steps
theorem own_nar_byte (x : Int32) : nar .byte x.toInt8.toInt32 = x.toInt8.toInt32 := by
  show x.toInt8.toInt32.toInt8.toInt32 = _
  rw [Int8.toInt8_toInt32]
theorem own_nar_short (x : Int32) : nar .short x.toInt16.toInt32 = x.toInt16.toInt32 := by
  show x.toInt16.toInt32.toInt16.toInt32 = _
  rw [Int16.toInt16_toInt32]
theorem own_nar_char (x : Int32) : nar .char x.toUInt32.toUInt16.toUInt32.toInt32 = x.toUInt32.toUInt16.toUInt32.toInt32 := by
  have h := c_i2c x
  have h2 := c_i2c (x.toUInt32.toUInt16.toUInt32.toInt32)
  show (x.toUInt32.toUInt16.toUInt32.toInt32).toUInt32.toUInt16.toUInt32.toInt32 = _
  apply Int32.toInt_inj.mp
  omega

theorem d3_0 : decode prog_1_method_6_code 0 = .ok (.aload_n 0, 1) := by decide +kernel
theorem d3_1 : decode prog_1_method_6_code 1 = .ok (.iconst 2, 1) := by decide +kernel
theorem d3_2 : decode prog_1_method_6_code 2 = .ok (.iload_n 1, 1) := by decide +kernel
theorem d3_3 : decode prog_1_method_6_code 3 = .ok (.imul, 1) := by decide +kernel
theorem d3_4 : decode prog_1_method_6_code 4 = .ok (.iload_n 2, 1) := by decide +kernel
theorem d3_5 : decode prog_1_method_6_code 5 = .ok (.i2b, 1) := by decide +kernel
theorem d3_6 : decode prog_1_method_6_code 6 = .ok (.bastore, 1) := by decide +kernel
theorem d3_7 : decode prog_1_method_6_code 7 = .ok (.aload_n 0, 1) := by decide +kernel
theorem d3_8 : decode prog_1_method_6_code 8 = .ok (.iconst 2, 1) := by decide +kernel
theorem d3_9 : decode prog_1_method_6_code 9 = .ok (.iload_n 1, 1) := by decide +kernel
theorem d3_10 : decode prog_1_method_6_code 10 = .ok (.imul, 1) := by decide +kernel
theorem d3_11 : decode prog_1_method_6_code 11 = .ok (.iconst 1, 1) := by decide +kernel
theorem d3_12 : decode prog_1_method_6_code 12 = .ok (.iadd, 1) := by decide +kernel
theorem d3_13 : decode prog_1_method_6_code 13 = .ok (.iload_n 2, 1) := by decide +kernel
theorem d3_14 : decode prog_1_method_6_code 14 = .ok (.bipush 8, 2) := by decide +kernel
theorem d3_16 : decode prog_1_method_6_code 16 = .ok (.ishr, 1) := by decide +kernel
theorem d3_17 : decode prog_1_method_6_code 17 = .ok (.i2b, 1) := by decide +kernel
theorem d3_18 : decode prog_1_method_6_code 18 = .ok (.bastore, 1) := by decide +kernel
theorem d3_19 : decode prog_1_method_6_code 19 = .ok (.return_, 1) := by decide +kernel
theorem pn_3_1_0 : plainName "com/example/glottis/glottis/audio/Audio" = true := by first | (simp [plainName, overriddenIn]; done) | decide +kernel
theorem ef_3_1_0 (m : MethodId) (x0 : Addr) (x2 : Int32) : entryFrame m #[(.ref x0), (.int (0 : Int32)), (.int x2)] 3 = mkF m 0 #[vr x0, vi (0 : Int32), vi x2] [] := by first | (simp [entryFrame, mkF, argsToLocals, Value.category]; done) | rfl
def Q3_1_0 (Z : State) (a1 : Addr) (p3 : Int32) (k1 : ClassId) (w0 : Int32) (w1 : Int32) (h0 : Heap) (n0 : Nat) (v : Option Value) (h : Heap) (L : List Loc) : Prop := v = none ∧ Fr n0 L ∧ Keep h0 h [a1] ∧ Arv Z h a1 k1 .byte (2 : Int32) [(.int (p3.toInt8.toInt32)), (.int ((p3 >>> ((8 : Int32) &&& 31)).toInt8.toInt32))] (.int (0 : Int32))
set_option maxRecDepth 65536 in
set_option maxHeartbeats 40000000 in
theorem rm3_1_0 (l : Launch) (Z : State) (a0 : Array Value) (hw : ∀ d ∈ tables_1, d.before a0 Z = true) (ws : List Jvm.Cond) (a1 : Addr) (p3 : Int32) (k1 : ClassId) (w0 : Int32) (w1 : Int32) (h0 : Heap) (n0 : Nat) (Z0 : n0 ≤ h0.size) (V0 : Arv Z h0 a1 k1 .byte (2 : Int32) [(.int w0), (.int w1)] (.int (0 : Int32))) (g_a1 : n0 ≤ a1) :
    MetFree l y_0 (head1 (Jvm.Cond.code y_0 prog_1_method_6_code 3 none :: ws) ({ frames := 0, cells := 0, slots := 0, locals := 0 } : Room)) (fun a U => a = #[(.ref a1), (.int (0 : Int32)), (.int p3)] ∧ Z.Warmed39 U.vm ∧ U.heap = h0) (fun _ _ _ _ _ => True) (fun _ U o U' => ∃ v L, o = .returned v ∧ Q3_1_0 Z a1 p3 k1 w0 w1 h0 n0 v U'.heap L ∧ FrameEnd U o U' L ({ frames := 0, cells := 0, slots := 0, locals := 0 } : Room).cells ({ frames := 0, cells := 0, slots := 0, locals := 0 } : Room).slots) := by
  refine MetFree.of_bodySF (plainFor_of_name pn_3_1_0) hisR ?_
  intro p e s m args below meth c s₁ Bd hml0 hP hK
  obtain ⟨rfl, hZ, hh⟩ := hP
  have hx := Bd.exec
  have hby := Bd.bytes
  have hml : c.maxLocals = 3 := hml0
  have hown : s.vm.findClass "com/example/glottis/glottis/audio/Audio" = some m.cls := findClass_of_methodNamed Bd.named
  have hnm := (name_of_methodNamed Bd.named Bd.method).1
  have X0 : Stand p l e ({ frames := 0, cells := 0, slots := 0, locals := 0 } : Room) s m #[(.ref a1), (.int (0 : Int32)), (.int p3)] below meth c s₁ [] 0 0 := Stand.of_body Bd
  have e0 : s₁.heap = h0 := by rw [← hh, Bd.state]; rfl
  have N0 := Fr.nil n0
  have K0 : Keep h0 h0 [a1] := Keep.refl h0 [a1]
  obtain ⟨F0, hF0⟩ : ∃ F : JFrame, F = entryFrame m #[(.ref a1), (.int (0 : Int32)), (.int p3)] 3 := ⟨_, rfl⟩
  have pre0 : ∀ t, Steps p.tables e below (s₁.setTop F0) t → Steps p.tables e below (s₁.setTop (entryFrame m #[(.ref a1), (.int (0 : Int32)), (.int p3)] 3)) t := fun t k => hF0 ▸ k
  have go0 : Go p e below s₁ F0 s₁ (mkF m 0 #[vr a1, vi (0 : Int32), vi p3] []) := fun t k => castTop (hF0.trans (ef_3_1_0 m a1 p3)) k
  have go1 : Go p e below s₁ F0 s₁ (mkF m 6 #[vr a1, vi (0 : Int32), vi p3] [(.int (p3.toInt8.toInt32)), (.int (0 : Int32)), (.ref a1)]) := by
    intro t kt
    refine go0 t ?_
    refine o_aloadN X0 hx (hb hby d3_0) rfl rfl ?_
    refine o_iconst X0 hx (hb hby d3_1) (v := 2) rfl ?_
    refine o_iloadN X0 hx (hb hby d3_2) rfl ?_
    refine o_imulE X0 hx (hb hby d3_3) (v := 0) rfl ?_
    refine o_iloadN X0 hx (hb hby d3_4) rfl ?_
    refine o_i2b X0 hx (hb hby d3_5) ?_
    exact kt
  obtain ⟨cl2, Ar2, q2, Sz2, Nn2, Hs2, G2⟩ := id V0
  have hin2 : ¬ ((0 : Int32) < 0 ∨ cl2.slots.size ≤ ((0 : Int32)).toNatClampNeg) := inb_of Sz2 ⟨by decide, by decide⟩
  obtain ⟨T2, h2, X2, e2, W2, st2⟩ := stB X0 hx hZ e0 Ar2 (j := (0 : Int32)) hin2 (g := (mkF m 6 #[vr a1, vi (0 : Int32), vi p3] [(.int (p3.toInt8.toInt32)), (.int (0 : Int32)), (.ref a1)])) rfl rfl (hb hby d3_6)
  rw [own_nar_byte] at W2
  have V2 : Arv Z h2 a1 k1 .byte (2 : Int32) [(.int (p3.toInt8.toInt32)), (.int w1)] (.int (0 : Int32)) := Arv.set Ar2 q2 Sz2 Nn2 Hs2 G2 (fits_nar_byte _) W2 0 rfl (Nat.le_of_ble_eq_true rfl)
  have K3 : Keep h0 h2 [a1] := K0.wr W2 (Or.inl (List.mem_of_getElem? (i := 0) rfl))
  have Z3 : n0 ≤ h2.size := Nat.le_trans Z0 (Keep.of_wr W2).1
  have N2 := Fr.snoc X2 N0 g_a1
  have go4 : Go p e below s₁ F0 T2 (mkF m 7 #[vr a1, vi (0 : Int32), vi p3] []) := fun t k => go1 t (st2 t k)
  have go5 : Go p e below s₁ F0 T2 (mkF m 18 #[vr a1, vi (0 : Int32), vi p3] [(.int ((p3 >>> ((8 : Int32) &&& 31)).toInt8.toInt32)), (.int (1 : Int32)), (.ref a1)]) := by
    intro t kt
    refine go4 t ?_
    refine o_aloadN X2 hx (hb hby d3_7) rfl rfl ?_
    refine o_iconst X2 hx (hb hby d3_8) (v := 2) rfl ?_
    refine o_iloadN X2 hx (hb hby d3_9) rfl ?_
    refine o_imulE X2 hx (hb hby d3_10) (v := 0) rfl ?_
    refine o_iconst X2 hx (hb hby d3_11) (v := 1) rfl ?_
    refine o_iaddE X2 hx (hb hby d3_12) (v := 1) rfl ?_
    refine o_iloadN X2 hx (hb hby d3_13) rfl ?_
    refine o_bipush X2 hx (hb hby d3_14) (v := 8) rfl ?_
    refine o_ishr X2 hx (hb hby d3_16) ?_
    refine o_i2b X2 hx (hb hby d3_17) ?_
    exact kt
  obtain ⟨cl6, Ar6, q6, Sz6, Nn6, Hs6, G6⟩ := id V2
  have hin6 : ¬ ((1 : Int32) < 0 ∨ cl6.slots.size ≤ ((1 : Int32)).toNatClampNeg) := inb_of Sz6 ⟨by decide, by decide⟩
  obtain ⟨T6, h6, X6, e6, W6, st6⟩ := stB X2 hx hZ e2 Ar6 (j := (1 : Int32)) hin6 (g := (mkF m 18 #[vr a1, vi (0 : Int32), vi p3] [(.int ((p3 >>> ((8 : Int32) &&& 31)).toInt8.toInt32)), (.int (1 : Int32)), (.ref a1)])) rfl rfl (hb hby d3_18)
  rw [own_nar_byte] at W6
  have V6 : Arv Z h6 a1 k1 .byte (2 : Int32) [(.int (p3.toInt8.toInt32)), (.int ((p3 >>> ((8 : Int32) &&& 31)).toInt8.toInt32))] (.int (0 : Int32)) := Arv.set Ar6 q6 Sz6 Nn6 Hs6 G6 (fits_nar_byte _) W6 1 rfl (Nat.le_of_ble_eq_true rfl)
  have K7 : Keep h0 h6 [a1] := K3.wr W6 (Or.inl (List.mem_of_getElem? (i := 0) rfl))
  have Z7 : n0 ≤ h6.size := Nat.le_trans Z3 (Keep.of_wr W6).1
  have N6 := Fr.snoc X6 N2 g_a1
  have go8 : Go p e below s₁ F0 T6 (mkF m 19 #[vr a1, vi (0 : Int32), vi p3] []) := fun t k => go5 t (st6 t k)
  obtain ⟨fs, hr, hrun, hended, hW, hsame⟩ := X6.leave (v := none) (fun _ => rfl)
  refine ⟨_, _, pre0 _ (go8 _ ?_), hrun, hended, _, _, rfl, ?_, ⟨_, rfl⟩, hW, hsame.mono (by decide) (by decide)⟩
  · skip
    exact X6.returnOut hx Bd.returns (hb hby d3_19) hr
  · show Q3_1_0 Z a1 p3 k1 w0 w1 h0 n0 _ T6.heap _
    rw [e6]
    exact ⟨rfl, N6, K7, V6⟩

theorem pn_3_2_0 : plainName "com/example/glottis/glottis/audio/Audio" = true := by first | (simp [plainName, overriddenIn]; done) | decide +kernel
theorem ef_3_2_0 (m : MethodId) (x0 : Addr) (x2 : Int32) : entryFrame m #[(.ref x0), (.int (0 : Int32)), (.int x2)] 3 = mkF m 0 #[vr x0, vi (0 : Int32), vi x2] [] := by first | (simp [entryFrame, mkF, argsToLocals, Value.category]; done) | rfl
def Q3_2_0 (Z : State) (a1 : Addr) (p3 : Int32) (k1 : ClassId) (w0 : Int32) (w1 : Int32) (w2 : Int32) (w3 : Int32) (h0 : Heap) (n0 : Nat) (v : Option Value) (h : Heap) (L : List Loc) : Prop := v = none ∧ Fr n0 L ∧ Keep h0 h [a1] ∧ Arv Z h a1 k1 .byte (4 : Int32) [(.int (p3.toInt8.toInt32)), (.int ((p3 >>> ((8 : Int32) &&& 31)).toInt8.toInt32)), (.int w2), (.int w3)] (.int (0 : Int32))
set_option maxRecDepth 65536 in
set_option maxHeartbeats 40000000 in
theorem rm3_2_0 (l : Launch) (Z : State) (a0 : Array Value) (hw : ∀ d ∈ tables_1, d.before a0 Z = true) (ws : List Jvm.Cond) (a1 : Addr) (p3 : Int32) (k1 : ClassId) (w0 : Int32) (w1 : Int32) (w2 : Int32) (w3 : Int32) (h0 : Heap) (n0 : Nat) (Z0 : n0 ≤ h0.size) (V0 : Arv Z h0 a1 k1 .byte (4 : Int32) [(.int w0), (.int w1), (.int w2), (.int w3)] (.int (0 : Int32))) (g_a1 : n0 ≤ a1) :
    MetFree l y_0 (head1 (Jvm.Cond.code y_0 prog_1_method_6_code 3 none :: ws) ({ frames := 0, cells := 0, slots := 0, locals := 0 } : Room)) (fun a U => a = #[(.ref a1), (.int (0 : Int32)), (.int p3)] ∧ Z.Warmed39 U.vm ∧ U.heap = h0) (fun _ _ _ _ _ => True) (fun _ U o U' => ∃ v L, o = .returned v ∧ Q3_2_0 Z a1 p3 k1 w0 w1 w2 w3 h0 n0 v U'.heap L ∧ FrameEnd U o U' L ({ frames := 0, cells := 0, slots := 0, locals := 0 } : Room).cells ({ frames := 0, cells := 0, slots := 0, locals := 0 } : Room).slots) := by
  refine MetFree.of_bodySF (plainFor_of_name pn_3_2_0) hisR ?_
  intro p e s m args below meth c s₁ Bd hml0 hP hK
  obtain ⟨rfl, hZ, hh⟩ := hP
  have hx := Bd.exec
  have hby := Bd.bytes
  have hml : c.maxLocals = 3 := hml0
  have hown : s.vm.findClass "com/example/glottis/glottis/audio/Audio" = some m.cls := findClass_of_methodNamed Bd.named
  have hnm := (name_of_methodNamed Bd.named Bd.method).1
  have X0 : Stand p l e ({ frames := 0, cells := 0, slots := 0, locals := 0 } : Room) s m #[(.ref a1), (.int (0 : Int32)), (.int p3)] below meth c s₁ [] 0 0 := Stand.of_body Bd
  have e0 : s₁.heap = h0 := by rw [← hh, Bd.state]; rfl
  have N0 := Fr.nil n0
  have K0 : Keep h0 h0 [a1] := Keep.refl h0 [a1]
  obtain ⟨F0, hF0⟩ : ∃ F : JFrame, F = entryFrame m #[(.ref a1), (.int (0 : Int32)), (.int p3)] 3 := ⟨_, rfl⟩
  have pre0 : ∀ t, Steps p.tables e below (s₁.setTop F0) t → Steps p.tables e below (s₁.setTop (entryFrame m #[(.ref a1), (.int (0 : Int32)), (.int p3)] 3)) t := fun t k => hF0 ▸ k
  have go0 : Go p e below s₁ F0 s₁ (mkF m 0 #[vr a1, vi (0 : Int32), vi p3] []) := fun t k => castTop (hF0.trans (ef_3_2_0 m a1 p3)) k
  have go1 : Go p e below s₁ F0 s₁ (mkF m 6 #[vr a1, vi (0 : Int32), vi p3] [(.int (p3.toInt8.toInt32)), (.int (0 : Int32)), (.ref a1)]) := by
    intro t kt
    refine go0 t ?_
    refine o_aloadN X0 hx (hb hby d3_0) rfl rfl ?_
    refine o_iconst X0 hx (hb hby d3_1) (v := 2) rfl ?_
    refine o_iloadN X0 hx (hb hby d3_2) rfl ?_
    refine o_imulE X0 hx (hb hby d3_3) (v := 0) rfl ?_
    refine o_iloadN X0 hx (hb hby d3_4) rfl ?_
    refine o_i2b X0 hx (hb hby d3_5) ?_
    exact kt
  obtain ⟨cl2, Ar2, q2, Sz2, Nn2, Hs2, G2⟩ := id V0
  have hin2 : ¬ ((0 : Int32) < 0 ∨ cl2.slots.size ≤ ((0 : Int32)).toNatClampNeg) := inb_of Sz2 ⟨by decide, by decide⟩
  obtain ⟨T2, h2, X2, e2, W2, st2⟩ := stB X0 hx hZ e0 Ar2 (j := (0 : Int32)) hin2 (g := (mkF m 6 #[vr a1, vi (0 : Int32), vi p3] [(.int (p3.toInt8.toInt32)), (.int (0 : Int32)), (.ref a1)])) rfl rfl (hb hby d3_6)
  rw [own_nar_byte] at W2
  have V2 : Arv Z h2 a1 k1 .byte (4 : Int32) [(.int (p3.toInt8.toInt32)), (.int w1), (.int w2), (.int w3)] (.int (0 : Int32)) := Arv.set Ar2 q2 Sz2 Nn2 Hs2 G2 (fits_nar_byte _) W2 0 rfl (Nat.le_of_ble_eq_true rfl)
  have K3 : Keep h0 h2 [a1] := K0.wr W2 (Or.inl (List.mem_of_getElem? (i := 0) rfl))
  have Z3 : n0 ≤ h2.size := Nat.le_trans Z0 (Keep.of_wr W2).1
  have N2 := Fr.snoc X2 N0 g_a1
  have go4 : Go p e below s₁ F0 T2 (mkF m 7 #[vr a1, vi (0 : Int32), vi p3] []) := fun t k => go1 t (st2 t k)
  have go5 : Go p e below s₁ F0 T2 (mkF m 18 #[vr a1, vi (0 : Int32), vi p3] [(.int ((p3 >>> ((8 : Int32) &&& 31)).toInt8.toInt32)), (.int (1 : Int32)), (.ref a1)]) := by
    intro t kt
    refine go4 t ?_
    refine o_aloadN X2 hx (hb hby d3_7) rfl rfl ?_
    refine o_iconst X2 hx (hb hby d3_8) (v := 2) rfl ?_
    refine o_iloadN X2 hx (hb hby d3_9) rfl ?_
    refine o_imulE X2 hx (hb hby d3_10) (v := 0) rfl ?_
    refine o_iconst X2 hx (hb hby d3_11) (v := 1) rfl ?_
    refine o_iaddE X2 hx (hb hby d3_12) (v := 1) rfl ?_
    refine o_iloadN X2 hx (hb hby d3_13) rfl ?_
    refine o_bipush X2 hx (hb hby d3_14) (v := 8) rfl ?_
    refine o_ishr X2 hx (hb hby d3_16) ?_
    refine o_i2b X2 hx (hb hby d3_17) ?_
    exact kt
  obtain ⟨cl6, Ar6, q6, Sz6, Nn6, Hs6, G6⟩ := id V2
  have hin6 : ¬ ((1 : Int32) < 0 ∨ cl6.slots.size ≤ ((1 : Int32)).toNatClampNeg) := inb_of Sz6 ⟨by decide, by decide⟩
  obtain ⟨T6, h6, X6, e6, W6, st6⟩ := stB X2 hx hZ e2 Ar6 (j := (1 : Int32)) hin6 (g := (mkF m 18 #[vr a1, vi (0 : Int32), vi p3] [(.int ((p3 >>> ((8 : Int32) &&& 31)).toInt8.toInt32)), (.int (1 : Int32)), (.ref a1)])) rfl rfl (hb hby d3_18)
  rw [own_nar_byte] at W6
  have V6 : Arv Z h6 a1 k1 .byte (4 : Int32) [(.int (p3.toInt8.toInt32)), (.int ((p3 >>> ((8 : Int32) &&& 31)).toInt8.toInt32)), (.int w2), (.int w3)] (.int (0 : Int32)) := Arv.set Ar6 q6 Sz6 Nn6 Hs6 G6 (fits_nar_byte _) W6 1 rfl (Nat.le_of_ble_eq_true rfl)
  have K7 : Keep h0 h6 [a1] := K3.wr W6 (Or.inl (List.mem_of_getElem? (i := 0) rfl))
  have Z7 : n0 ≤ h6.size := Nat.le_trans Z3 (Keep.of_wr W6).1
  have N6 := Fr.snoc X6 N2 g_a1
  have go8 : Go p e below s₁ F0 T6 (mkF m 19 #[vr a1, vi (0 : Int32), vi p3] []) := fun t k => go5 t (st6 t k)
  obtain ⟨fs, hr, hrun, hended, hW, hsame⟩ := X6.leave (v := none) (fun _ => rfl)
  refine ⟨_, _, pre0 _ (go8 _ ?_), hrun, hended, _, _, rfl, ?_, ⟨_, rfl⟩, hW, hsame.mono (by decide) (by decide)⟩
  · skip
    exact X6.returnOut hx Bd.returns (hb hby d3_19) hr
  · show Q3_2_0 Z a1 p3 k1 w0 w1 w2 w3 h0 n0 _ T6.heap _
    rw [e6]
    exact ⟨rfl, N6, K7, V6⟩

theorem pn_3_2_1 : plainName "com/example/glottis/glottis/audio/Audio" = true := by first | (simp [plainName, overriddenIn]; done) | decide +kernel
theorem ef_3_2_1 (m : MethodId) (x0 : Addr) (x2 : Int32) : entryFrame m #[(.ref x0), (.int (1 : Int32)), (.int x2)] 3 = mkF m 0 #[vr x0, vi (1 : Int32), vi x2] [] := by first | (simp [entryFrame, mkF, argsToLocals, Value.category]; done) | rfl
def Q3_2_1 (Z : State) (a1 : Addr) (p3 : Int32) (k1 : ClassId) (w0 : Int32) (w1 : Int32) (w2 : Int32) (w3 : Int32) (h0 : Heap) (n0 : Nat) (v : Option Value) (h : Heap) (L : List Loc) : Prop := v = none ∧ Fr n0 L ∧ Keep h0 h [a1] ∧ Arv Z h a1 k1 .byte (4 : Int32) [(.int w0), (.int w1), (.int (p3.toInt8.toInt32)), (.int ((p3 >>> ((8 : Int32) &&& 31)).toInt8.toInt32))] (.int (0 : Int32))
set_option maxRecDepth 65536 in
set_option maxHeartbeats 40000000 in
theorem rm3_2_1 (l : Launch) (Z : State) (a0 : Array Value) (hw : ∀ d ∈ tables_1, d.before a0 Z = true) (ws : List Jvm.Cond) (a1 : Addr) (p3 : Int32) (k1 : ClassId) (w0 : Int32) (w1 : Int32) (w2 : Int32) (w3 : Int32) (h0 : Heap) (n0 : Nat) (Z0 : n0 ≤ h0.size) (V0 : Arv Z h0 a1 k1 .byte (4 : Int32) [(.int w0), (.int w1), (.int w2), (.int w3)] (.int (0 : Int32))) (g_a1 : n0 ≤ a1) :
    MetFree l y_0 (head1 (Jvm.Cond.code y_0 prog_1_method_6_code 3 none :: ws) ({ frames := 0, cells := 0, slots := 0, locals := 0 } : Room)) (fun a U => a = #[(.ref a1), (.int (1 : Int32)), (.int p3)] ∧ Z.Warmed39 U.vm ∧ U.heap = h0) (fun _ _ _ _ _ => True) (fun _ U o U' => ∃ v L, o = .returned v ∧ Q3_2_1 Z a1 p3 k1 w0 w1 w2 w3 h0 n0 v U'.heap L ∧ FrameEnd U o U' L ({ frames := 0, cells := 0, slots := 0, locals := 0 } : Room).cells ({ frames := 0, cells := 0, slots := 0, locals := 0 } : Room).slots) := by
  refine MetFree.of_bodySF (plainFor_of_name pn_3_2_1) hisR ?_
  intro p e s m args below meth c s₁ Bd hml0 hP hK
  obtain ⟨rfl, hZ, hh⟩ := hP
  have hx := Bd.exec
  have hby := Bd.bytes
  have hml : c.maxLocals = 3 := hml0
  have hown : s.vm.findClass "com/example/glottis/glottis/audio/Audio" = some m.cls := findClass_of_methodNamed Bd.named
  have hnm := (name_of_methodNamed Bd.named Bd.method).1
  have X0 : Stand p l e ({ frames := 0, cells := 0, slots := 0, locals := 0 } : Room) s m #[(.ref a1), (.int (1 : Int32)), (.int p3)] below meth c s₁ [] 0 0 := Stand.of_body Bd
  have e0 : s₁.heap = h0 := by rw [← hh, Bd.state]; rfl
  have N0 := Fr.nil n0
  have K0 : Keep h0 h0 [a1] := Keep.refl h0 [a1]
  obtain ⟨F0, hF0⟩ : ∃ F : JFrame, F = entryFrame m #[(.ref a1), (.int (1 : Int32)), (.int p3)] 3 := ⟨_, rfl⟩
  have pre0 : ∀ t, Steps p.tables e below (s₁.setTop F0) t → Steps p.tables e below (s₁.setTop (entryFrame m #[(.ref a1), (.int (1 : Int32)), (.int p3)] 3)) t := fun t k => hF0 ▸ k
  have go0 : Go p e below s₁ F0 s₁ (mkF m 0 #[vr a1, vi (1 : Int32), vi p3] []) := fun t k => castTop (hF0.trans (ef_3_2_1 m a1 p3)) k
  have go1 : Go p e below s₁ F0 s₁ (mkF m 6 #[vr a1, vi (1 : Int32), vi p3] [(.int (p3.toInt8.toInt32)), (.int (2 : Int32)), (.ref a1)]) := by
    intro t kt
    refine go0 t ?_
    refine o_aloadN X0 hx (hb hby d3_0) rfl rfl ?_
    refine o_iconst X0 hx (hb hby d3_1) (v := 2) rfl ?_
    refine o_iloadN X0 hx (hb hby d3_2) rfl ?_
    refine o_imulE X0 hx (hb hby d3_3) (v := 2) rfl ?_
    refine o_iloadN X0 hx (hb hby d3_4) rfl ?_
    refine o_i2b X0 hx (hb hby d3_5) ?_
    exact kt
  obtain ⟨cl2, Ar2, q2, Sz2, Nn2, Hs2, G2⟩ := id V0
  have hin2 : ¬ ((2 : Int32) < 0 ∨ cl2.slots.size ≤ ((2 : Int32)).toNatClampNeg) := inb_of Sz2 ⟨by decide, by decide⟩
  obtain ⟨T2, h2, X2, e2, W2, st2⟩ := stB X0 hx hZ e0 Ar2 (j := (2 : Int32)) hin2 (g := (mkF m 6 #[vr a1, vi (1 : Int32), vi p3] [(.int (p3.toInt8.toInt32)), (.int (2 : Int32)), (.ref a1)])) rfl rfl (hb hby d3_6)
  rw [own_nar_byte] at W2
  have V2 : Arv Z h2 a1 k1 .byte (4 : Int32) [(.int w0), (.int w1), (.int (p3.toInt8.toInt32)), (.int w3)] (.int (0 : Int32)) := Arv.set Ar2 q2 Sz2 Nn2 Hs2 G2 (fits_nar_byte _) W2 2 rfl (Nat.le_of_ble_eq_true rfl)
  have K3 : Keep h0 h2 [a1] := K0.wr W2 (Or.inl (List.mem_of_getElem? (i := 0) rfl))
  have Z3 : n0 ≤ h2.size := Nat.le_trans Z0 (Keep.of_wr W2).1
  have N2 := Fr.snoc X2 N0 g_a1
  have go4 : Go p e below s₁ F0 T2 (mkF m 7 #[vr a1, vi (1 : Int32), vi p3] []) := fun t k => go1 t (st2 t k)
  have go5 : Go p e below s₁ F0 T2 (mkF m 18 #[vr a1, vi (1 : Int32), vi p3] [(.int ((p3 >>> ((8 : Int32) &&& 31)).toInt8.toInt32)), (.int (3 : Int32)), (.ref a1)]) := by
    intro t kt
    refine go4 t ?_
    refine o_aloadN X2 hx (hb hby d3_7) rfl rfl ?_
    refine o_iconst X2 hx (hb hby d3_8) (v := 2) rfl ?_
    refine o_iloadN X2 hx (hb hby d3_9) rfl ?_
    refine o_imulE X2 hx (hb hby d3_10) (v := 2) rfl ?_
    refine o_iconst X2 hx (hb hby d3_11) (v := 1) rfl ?_
    refine o_iaddE X2 hx (hb hby d3_12) (v := 3) rfl ?_
    refine o_iloadN X2 hx (hb hby d3_13) rfl ?_
    refine o_bipush X2 hx (hb hby d3_14) (v := 8) rfl ?_
    refine o_ishr X2 hx (hb hby d3_16) ?_
    refine o_i2b X2 hx (hb hby d3_17) ?_
    exact kt
  obtain ⟨cl6, Ar6, q6, Sz6, Nn6, Hs6, G6⟩ := id V2
  have hin6 : ¬ ((3 : Int32) < 0 ∨ cl6.slots.size ≤ ((3 : Int32)).toNatClampNeg) := inb_of Sz6 ⟨by decide, by decide⟩
  obtain ⟨T6, h6, X6, e6, W6, st6⟩ := stB X2 hx hZ e2 Ar6 (j := (3 : Int32)) hin6 (g := (mkF m 18 #[vr a1, vi (1 : Int32), vi p3] [(.int ((p3 >>> ((8 : Int32) &&& 31)).toInt8.toInt32)), (.int (3 : Int32)), (.ref a1)])) rfl rfl (hb hby d3_18)
  rw [own_nar_byte] at W6
  have V6 : Arv Z h6 a1 k1 .byte (4 : Int32) [(.int w0), (.int w1), (.int (p3.toInt8.toInt32)), (.int ((p3 >>> ((8 : Int32) &&& 31)).toInt8.toInt32))] (.int (0 : Int32)) := Arv.set Ar6 q6 Sz6 Nn6 Hs6 G6 (fits_nar_byte _) W6 3 rfl (Nat.le_of_ble_eq_true rfl)
  have K7 : Keep h0 h6 [a1] := K3.wr W6 (Or.inl (List.mem_of_getElem? (i := 0) rfl))
  have Z7 : n0 ≤ h6.size := Nat.le_trans Z3 (Keep.of_wr W6).1
  have N6 := Fr.snoc X6 N2 g_a1
  have go8 : Go p e below s₁ F0 T6 (mkF m 19 #[vr a1, vi (1 : Int32), vi p3] []) := fun t k => go5 t (st6 t k)
  obtain ⟨fs, hr, hrun, hended, hW, hsame⟩ := X6.leave (v := none) (fun _ => rfl)
  refine ⟨_, _, pre0 _ (go8 _ ?_), hrun, hended, _, _, rfl, ?_, ⟨_, rfl⟩, hW, hsame.mono (by decide) (by decide)⟩
  · skip
    exact X6.returnOut hx Bd.returns (hb hby d3_19) hr
  · show Q3_2_1 Z a1 p3 k1 w0 w1 w2 w3 h0 n0 _ T6.heap _
    rw [e6]
    exact ⟨rfl, N6, K7, V6⟩

theorem pn_3_3_0 : plainName "com/example/glottis/glottis/audio/Audio" = true := by first | (simp [plainName, overriddenIn]; done) | decide +kernel
theorem ef_3_3_0 (m : MethodId) (x0 : Addr) (x2 : Int32) : entryFrame m #[(.ref x0), (.int (0 : Int32)), (.int x2)] 3 = mkF m 0 #[vr x0, vi (0 : Int32), vi x2] [] := by first | (simp [entryFrame, mkF, argsToLocals, Value.category]; done) | rfl
def Q3_3_0 (Z : State) (a1 : Addr) (p3 : Int32) (k1 : ClassId) (w0 : Int32) (w1 : Int32) (w2 : Int32) (w3 : Int32) (w4 : Int32) (w5 : Int32) (h0 : Heap) (n0 : Nat) (v : Option Value) (h : Heap) (L : List Loc) : Prop := v = none ∧ Fr n0 L ∧ Keep h0 h [a1] ∧ Arv Z h a1 k1 .byte (6 : Int32) [(.int (p3.toInt8.toInt32)), (.int ((p3 >>> ((8 : Int32) &&& 31)).toInt8.toInt32)), (.int w2), (.int w3), (.int w4), (.int w5)] (.int (0 : Int32))
set_option maxRecDepth 65536 in
set_option maxHeartbeats 40000000 in
theorem rm3_3_0 (l : Launch) (Z : State) (a0 : Array Value) (hw : ∀ d ∈ tables_1, d.before a0 Z = true) (ws : List Jvm.Cond) (a1 : Addr) (p3 : Int32) (k1 : ClassId) (w0 : Int32) (w1 : Int32) (w2 : Int32) (w3 : Int32) (w4 : Int32) (w5 : Int32) (h0 : Heap) (n0 : Nat) (Z0 : n0 ≤ h0.size) (V0 : Arv Z h0 a1 k1 .byte (6 : Int32) [(.int w0), (.int w1), (.int w2), (.int w3), (.int w4), (.int w5)] (.int (0 : Int32))) (g_a1 : n0 ≤ a1) :
    MetFree l y_0 (head1 (Jvm.Cond.code y_0 prog_1_method_6_code 3 none :: ws) ({ frames := 0, cells := 0, slots := 0, locals := 0 } : Room)) (fun a U => a = #[(.ref a1), (.int (0 : Int32)), (.int p3)] ∧ Z.Warmed39 U.vm ∧ U.heap = h0) (fun _ _ _ _ _ => True) (fun _ U o U' => ∃ v L, o = .returned v ∧ Q3_3_0 Z a1 p3 k1 w0 w1 w2 w3 w4 w5 h0 n0 v U'.heap L ∧ FrameEnd U o U' L ({ frames := 0, cells := 0, slots := 0, locals := 0 } : Room).cells ({ frames := 0, cells := 0, slots := 0, locals := 0 } : Room).slots) := by
  refine MetFree.of_bodySF (plainFor_of_name pn_3_3_0) hisR ?_
  intro p e s m args below meth c s₁ Bd hml0 hP hK
  obtain ⟨rfl, hZ, hh⟩ := hP
  have hx := Bd.exec
  have hby := Bd.bytes
  have hml : c.maxLocals = 3 := hml0
  have hown : s.vm.findClass "com/example/glottis/glottis/audio/Audio" = some m.cls := findClass_of_methodNamed Bd.named
  have hnm := (name_of_methodNamed Bd.named Bd.method).1
  have X0 : Stand p l e ({ frames := 0, cells := 0, slots := 0, locals := 0 } : Room) s m #[(.ref a1), (.int (0 : Int32)), (.int p3)] below meth c s₁ [] 0 0 := Stand.of_body Bd
  have e0 : s₁.heap = h0 := by rw [← hh, Bd.state]; rfl
  have N0 := Fr.nil n0
  have K0 : Keep h0 h0 [a1] := Keep.refl h0 [a1]
  obtain ⟨F0, hF0⟩ : ∃ F : JFrame, F = entryFrame m #[(.ref a1), (.int (0 : Int32)), (.int p3)] 3 := ⟨_, rfl⟩
  have pre0 : ∀ t, Steps p.tables e below (s₁.setTop F0) t → Steps p.tables e below (s₁.setTop (entryFrame m #[(.ref a1), (.int (0 : Int32)), (.int p3)] 3)) t := fun t k => hF0 ▸ k
  have go0 : Go p e below s₁ F0 s₁ (mkF m 0 #[vr a1, vi (0 : Int32), vi p3] []) := fun t k => castTop (hF0.trans (ef_3_3_0 m a1 p3)) k
  have go1 : Go p e below s₁ F0 s₁ (mkF m 6 #[vr a1, vi (0 : Int32), vi p3] [(.int (p3.toInt8.toInt32)), (.int (0 : Int32)), (.ref a1)]) := by
    intro t kt
    refine go0 t ?_
    refine o_aloadN X0 hx (hb hby d3_0) rfl rfl ?_
    refine o_iconst X0 hx (hb hby d3_1) (v := 2) rfl ?_
    refine o_iloadN X0 hx (hb hby d3_2) rfl ?_
    refine o_imulE X0 hx (hb hby d3_3) (v := 0) rfl ?_
    refine o_iloadN X0 hx (hb hby d3_4) rfl ?_
    refine o_i2b X0 hx (hb hby d3_5) ?_
    exact kt
  obtain ⟨cl2, Ar2, q2, Sz2, Nn2, Hs2, G2⟩ := id V0
  have hin2 : ¬ ((0 : Int32) < 0 ∨ cl2.slots.size ≤ ((0 : Int32)).toNatClampNeg) := inb_of Sz2 ⟨by decide, by decide⟩
  obtain ⟨T2, h2, X2, e2, W2, st2⟩ := stB X0 hx hZ e0 Ar2 (j := (0 : Int32)) hin2 (g := (mkF m 6 #[vr a1, vi (0 : Int32), vi p3] [(.int (p3.toInt8.toInt32)), (.int (0 : Int32)), (.ref a1)])) rfl rfl (hb hby d3_6)
  rw [own_nar_byte] at W2
  have V2 : Arv Z h2 a1 k1 .byte (6 : Int32) [(.int (p3.toInt8.toInt32)), (.int w1), (.int w2), (.int w3), (.int w4), (.int w5)] (.int (0 : Int32)) := Arv.set Ar2 q2 Sz2 Nn2 Hs2 G2 (fits_nar_byte _) W2 0 rfl (Nat.le_of_ble_eq_true rfl)
  have K3 : Keep h0 h2 [a1] := K0.wr W2 (Or.inl (List.mem_of_getElem? (i := 0) rfl))
  have Z3 : n0 ≤ h2.size := Nat.le_trans Z0 (Keep.of_wr W2).1
  have N2 := Fr.snoc X2 N0 g_a1
  have go4 : Go p e below s₁ F0 T2 (mkF m 7 #[vr a1, vi (0 : Int32), vi p3] []) := fun t k => go1 t (st2 t k)
  have go5 : Go p e below s₁ F0 T2 (mkF m 18 #[vr a1, vi (0 : Int32), vi p3] [(.int ((p3 >>> ((8 : Int32) &&& 31)).toInt8.toInt32)), (.int (1 : Int32)), (.ref a1)]) := by
    intro t kt
    refine go4 t ?_
    refine o_aloadN X2 hx (hb hby d3_7) rfl rfl ?_
    refine o_iconst X2 hx (hb hby d3_8) (v := 2) rfl ?_
    refine o_iloadN X2 hx (hb hby d3_9) rfl ?_
    refine o_imulE X2 hx (hb hby d3_10) (v := 0) rfl ?_
    refine o_iconst X2 hx (hb hby d3_11) (v := 1) rfl ?_
    refine o_iaddE X2 hx (hb hby d3_12) (v := 1) rfl ?_
    refine o_iloadN X2 hx (hb hby d3_13) rfl ?_
    refine o_bipush X2 hx (hb hby d3_14) (v := 8) rfl ?_
    refine o_ishr X2 hx (hb hby d3_16) ?_
    refine o_i2b X2 hx (hb hby d3_17) ?_
    exact kt
  obtain ⟨cl6, Ar6, q6, Sz6, Nn6, Hs6, G6⟩ := id V2
  have hin6 : ¬ ((1 : Int32) < 0 ∨ cl6.slots.size ≤ ((1 : Int32)).toNatClampNeg) := inb_of Sz6 ⟨by decide, by decide⟩
  obtain ⟨T6, h6, X6, e6, W6, st6⟩ := stB X2 hx hZ e2 Ar6 (j := (1 : Int32)) hin6 (g := (mkF m 18 #[vr a1, vi (0 : Int32), vi p3] [(.int ((p3 >>> ((8 : Int32) &&& 31)).toInt8.toInt32)), (.int (1 : Int32)), (.ref a1)])) rfl rfl (hb hby d3_18)
  rw [own_nar_byte] at W6
  have V6 : Arv Z h6 a1 k1 .byte (6 : Int32) [(.int (p3.toInt8.toInt32)), (.int ((p3 >>> ((8 : Int32) &&& 31)).toInt8.toInt32)), (.int w2), (.int w3), (.int w4), (.int w5)] (.int (0 : Int32)) := Arv.set Ar6 q6 Sz6 Nn6 Hs6 G6 (fits_nar_byte _) W6 1 rfl (Nat.le_of_ble_eq_true rfl)
  have K7 : Keep h0 h6 [a1] := K3.wr W6 (Or.inl (List.mem_of_getElem? (i := 0) rfl))
  have Z7 : n0 ≤ h6.size := Nat.le_trans Z3 (Keep.of_wr W6).1
  have N6 := Fr.snoc X6 N2 g_a1
  have go8 : Go p e below s₁ F0 T6 (mkF m 19 #[vr a1, vi (0 : Int32), vi p3] []) := fun t k => go5 t (st6 t k)
  obtain ⟨fs, hr, hrun, hended, hW, hsame⟩ := X6.leave (v := none) (fun _ => rfl)
  refine ⟨_, _, pre0 _ (go8 _ ?_), hrun, hended, _, _, rfl, ?_, ⟨_, rfl⟩, hW, hsame.mono (by decide) (by decide)⟩
  · skip
    exact X6.returnOut hx Bd.returns (hb hby d3_19) hr
  · show Q3_3_0 Z a1 p3 k1 w0 w1 w2 w3 w4 w5 h0 n0 _ T6.heap _
    rw [e6]
    exact ⟨rfl, N6, K7, V6⟩

theorem pn_3_3_1 : plainName "com/example/glottis/glottis/audio/Audio" = true := by first | (simp [plainName, overriddenIn]; done) | decide +kernel
theorem ef_3_3_1 (m : MethodId) (x0 : Addr) (x2 : Int32) : entryFrame m #[(.ref x0), (.int (1 : Int32)), (.int x2)] 3 = mkF m 0 #[vr x0, vi (1 : Int32), vi x2] [] := by first | (simp [entryFrame, mkF, argsToLocals, Value.category]; done) | rfl
def Q3_3_1 (Z : State) (a1 : Addr) (p3 : Int32) (k1 : ClassId) (w0 : Int32) (w1 : Int32) (w2 : Int32) (w3 : Int32) (w4 : Int32) (w5 : Int32) (h0 : Heap) (n0 : Nat) (v : Option Value) (h : Heap) (L : List Loc) : Prop := v = none ∧ Fr n0 L ∧ Keep h0 h [a1] ∧ Arv Z h a1 k1 .byte (6 : Int32) [(.int w0), (.int w1), (.int (p3.toInt8.toInt32)), (.int ((p3 >>> ((8 : Int32) &&& 31)).toInt8.toInt32)), (.int w4), (.int w5)] (.int (0 : Int32))
set_option maxRecDepth 65536 in
set_option maxHeartbeats 40000000 in
theorem rm3_3_1 (l : Launch) (Z : State) (a0 : Array Value) (hw : ∀ d ∈ tables_1, d.before a0 Z = true) (ws : List Jvm.Cond) (a1 : Addr) (p3 : Int32) (k1 : ClassId) (w0 : Int32) (w1 : Int32) (w2 : Int32) (w3 : Int32) (w4 : Int32) (w5 : Int32) (h0 : Heap) (n0 : Nat) (Z0 : n0 ≤ h0.size) (V0 : Arv Z h0 a1 k1 .byte (6 : Int32) [(.int w0), (.int w1), (.int w2), (.int w3), (.int w4), (.int w5)] (.int (0 : Int32))) (g_a1 : n0 ≤ a1) :
    MetFree l y_0 (head1 (Jvm.Cond.code y_0 prog_1_method_6_code 3 none :: ws) ({ frames := 0, cells := 0, slots := 0, locals := 0 } : Room)) (fun a U => a = #[(.ref a1), (.int (1 : Int32)), (.int p3)] ∧ Z.Warmed39 U.vm ∧ U.heap = h0) (fun _ _ _ _ _ => True) (fun _ U o U' => ∃ v L, o = .returned v ∧ Q3_3_1 Z a1 p3 k1 w0 w1 w2 w3 w4 w5 h0 n0 v U'.heap L ∧ FrameEnd U o U' L ({ frames := 0, cells := 0, slots := 0, locals := 0 } : Room).cells ({ frames := 0, cells := 0, slots := 0, locals := 0 } : Room).slots) := by
  refine MetFree.of_bodySF (plainFor_of_name pn_3_3_1) hisR ?_
  intro p e s m args below meth c s₁ Bd hml0 hP hK
  obtain ⟨rfl, hZ, hh⟩ := hP
  have hx := Bd.exec
  have hby := Bd.bytes
  have hml : c.maxLocals = 3 := hml0
  have hown : s.vm.findClass "com/example/glottis/glottis/audio/Audio" = some m.cls := findClass_of_methodNamed Bd.named
  have hnm := (name_of_methodNamed Bd.named Bd.method).1
  have X0 : Stand p l e ({ frames := 0, cells := 0, slots := 0, locals := 0 } : Room) s m #[(.ref a1), (.int (1 : Int32)), (.int p3)] below meth c s₁ [] 0 0 := Stand.of_body Bd
  have e0 : s₁.heap = h0 := by rw [← hh, Bd.state]; rfl
  have N0 := Fr.nil n0
  have K0 : Keep h0 h0 [a1] := Keep.refl h0 [a1]
  obtain ⟨F0, hF0⟩ : ∃ F : JFrame, F = entryFrame m #[(.ref a1), (.int (1 : Int32)), (.int p3)] 3 := ⟨_, rfl⟩
  have pre0 : ∀ t, Steps p.tables e below (s₁.setTop F0) t → Steps p.tables e below (s₁.setTop (entryFrame m #[(.ref a1), (.int (1 : Int32)), (.int p3)] 3)) t := fun t k => hF0 ▸ k
  have go0 : Go p e below s₁ F0 s₁ (mkF m 0 #[vr a1, vi (1 : Int32), vi p3] []) := fun t k => castTop (hF0.trans (ef_3_3_1 m a1 p3)) k
  have go1 : Go p e below s₁ F0 s₁ (mkF m 6 #[vr a1, vi (1 : Int32), vi p3] [(.int (p3.toInt8.toInt32)), (.int (2 : Int32)), (.ref a1)]) := by
    intro t kt
    refine go0 t ?_
    refine o_aloadN X0 hx (hb hby d3_0) rfl rfl ?_
    refine o_iconst X0 hx (hb hby d3_1) (v := 2) rfl ?_
    refine o_iloadN X0 hx (hb hby d3_2) rfl ?_
    refine o_imulE X0 hx (hb hby d3_3) (v := 2) rfl ?_
    refine o_iloadN X0 hx (hb hby d3_4) rfl ?_
    refine o_i2b X0 hx (hb hby d3_5) ?_
    exact kt
  obtain ⟨cl2, Ar2, q2, Sz2, Nn2, Hs2, G2⟩ := id V0
  have hin2 : ¬ ((2 : Int32) < 0 ∨ cl2.slots.size ≤ ((2 : Int32)).toNatClampNeg) := inb_of Sz2 ⟨by decide, by decide⟩
  obtain ⟨T2, h2, X2, e2, W2, st2⟩ := stB X0 hx hZ e0 Ar2 (j := (2 : Int32)) hin2 (g := (mkF m 6 #[vr a1, vi (1 : Int32), vi p3] [(.int (p3.toInt8.toInt32)), (.int (2 : Int32)), (.ref a1)])) rfl rfl (hb hby d3_6)
  rw [own_nar_byte] at W2
  have V2 : Arv Z h2 a1 k1 .byte (6 : Int32) [(.int w0), (.int w1), (.int (p3.toInt8.toInt32)), (.int w3), (.int w4), (.int w5)] (.int (0 : Int32)) := Arv.set Ar2 q2 Sz2 Nn2 Hs2 G2 (fits_nar_byte _) W2 2 rfl (Nat.le_of_ble_eq_true rfl)
  have K3 : Keep h0 h2 [a1] := K0.wr W2 (Or.inl (List.mem_of_getElem? (i := 0) rfl))
  have Z3 : n0 ≤ h2.size := Nat.le_trans Z0 (Keep.of_wr W2).1
  have N2 := Fr.snoc X2 N0 g_a1
  have go4 : Go p e below s₁ F0 T2 (mkF m 7 #[vr a1, vi (1 : Int32), vi p3] []) := fun t k => go1 t (st2 t k)
  have go5 : Go p e below s₁ F0 T2 (mkF m 18 #[vr a1, vi (1 : Int32), vi p3] [(.int ((p3 >>> ((8 : Int32) &&& 31)).toInt8.toInt32)), (.int (3 : Int32)), (.ref a1)]) := by
    intro t kt
    refine go4 t ?_
    refine o_aloadN X2 hx (hb hby d3_7) rfl rfl ?_
    refine o_iconst X2 hx (hb hby d3_8) (v := 2) rfl ?_
    refine o_iloadN X2 hx (hb hby d3_9) rfl ?_
    refine o_imulE X2 hx (hb hby d3_10) (v := 2) rfl ?_
    refine o_iconst X2 hx (hb hby d3_11) (v := 1) rfl ?_
    refine o_iaddE X2 hx (hb hby d3_12) (v := 3) rfl ?_
    refine o_iloadN X2 hx (hb hby d3_13) rfl ?_
    refine o_bipush X2 hx (hb hby d3_14) (v := 8) rfl ?_
    refine o_ishr X2 hx (hb hby d3_16) ?_
    refine o_i2b X2 hx (hb hby d3_17) ?_
    exact kt
  obtain ⟨cl6, Ar6, q6, Sz6, Nn6, Hs6, G6⟩ := id V2
  have hin6 : ¬ ((3 : Int32) < 0 ∨ cl6.slots.size ≤ ((3 : Int32)).toNatClampNeg) := inb_of Sz6 ⟨by decide, by decide⟩
  obtain ⟨T6, h6, X6, e6, W6, st6⟩ := stB X2 hx hZ e2 Ar6 (j := (3 : Int32)) hin6 (g := (mkF m 18 #[vr a1, vi (1 : Int32), vi p3] [(.int ((p3 >>> ((8 : Int32) &&& 31)).toInt8.toInt32)), (.int (3 : Int32)), (.ref a1)])) rfl rfl (hb hby d3_18)
  rw [own_nar_byte] at W6
  have V6 : Arv Z h6 a1 k1 .byte (6 : Int32) [(.int w0), (.int w1), (.int (p3.toInt8.toInt32)), (.int ((p3 >>> ((8 : Int32) &&& 31)).toInt8.toInt32)), (.int w4), (.int w5)] (.int (0 : Int32)) := Arv.set Ar6 q6 Sz6 Nn6 Hs6 G6 (fits_nar_byte _) W6 3 rfl (Nat.le_of_ble_eq_true rfl)
  have K7 : Keep h0 h6 [a1] := K3.wr W6 (Or.inl (List.mem_of_getElem? (i := 0) rfl))
  have Z7 : n0 ≤ h6.size := Nat.le_trans Z3 (Keep.of_wr W6).1
  have N6 := Fr.snoc X6 N2 g_a1
  have go8 : Go p e below s₁ F0 T6 (mkF m 19 #[vr a1, vi (1 : Int32), vi p3] []) := fun t k => go5 t (st6 t k)
  obtain ⟨fs, hr, hrun, hended, hW, hsame⟩ := X6.leave (v := none) (fun _ => rfl)
  refine ⟨_, _, pre0 _ (go8 _ ?_), hrun, hended, _, _, rfl, ?_, ⟨_, rfl⟩, hW, hsame.mono (by decide) (by decide)⟩
  · skip
    exact X6.returnOut hx Bd.returns (hb hby d3_19) hr
  · show Q3_3_1 Z a1 p3 k1 w0 w1 w2 w3 w4 w5 h0 n0 _ T6.heap _
    rw [e6]
    exact ⟨rfl, N6, K7, V6⟩

theorem pn_3_3_2 : plainName "com/example/glottis/glottis/audio/Audio" = true := by first | (simp [plainName, overriddenIn]; done) | decide +kernel
theorem ef_3_3_2 (m : MethodId) (x0 : Addr) (x2 : Int32) : entryFrame m #[(.ref x0), (.int (2 : Int32)), (.int x2)] 3 = mkF m 0 #[vr x0, vi (2 : Int32), vi x2] [] := by first | (simp [entryFrame, mkF, argsToLocals, Value.category]; done) | rfl
def Q3_3_2 (Z : State) (a1 : Addr) (p3 : Int32) (k1 : ClassId) (w0 : Int32) (w1 : Int32) (w2 : Int32) (w3 : Int32) (w4 : Int32) (w5 : Int32) (h0 : Heap) (n0 : Nat) (v : Option Value) (h : Heap) (L : List Loc) : Prop := v = none ∧ Fr n0 L ∧ Keep h0 h [a1] ∧ Arv Z h a1 k1 .byte (6 : Int32) [(.int w0), (.int w1), (.int w2), (.int w3), (.int (p3.toInt8.toInt32)), (.int ((p3 >>> ((8 : Int32) &&& 31)).toInt8.toInt32))] (.int (0 : Int32))
set_option maxRecDepth 65536 in
set_option maxHeartbeats 40000000 in
theorem rm3_3_2 (l : Launch) (Z : State) (a0 : Array Value) (hw : ∀ d ∈ tables_1, d.before a0 Z = true) (ws : List Jvm.Cond) (a1 : Addr) (p3 : Int32) (k1 : ClassId) (w0 : Int32) (w1 : Int32) (w2 : Int32) (w3 : Int32) (w4 : Int32) (w5 : Int32) (h0 : Heap) (n0 : Nat) (Z0 : n0 ≤ h0.size) (V0 : Arv Z h0 a1 k1 .byte (6 : Int32) [(.int w0), (.int w1), (.int w2), (.int w3), (.int w4), (.int w5)] (.int (0 : Int32))) (g_a1 : n0 ≤ a1) :
    MetFree l y_0 (head1 (Jvm.Cond.code y_0 prog_1_method_6_code 3 none :: ws) ({ frames := 0, cells := 0, slots := 0, locals := 0 } : Room)) (fun a U => a = #[(.ref a1), (.int (2 : Int32)), (.int p3)] ∧ Z.Warmed39 U.vm ∧ U.heap = h0) (fun _ _ _ _ _ => True) (fun _ U o U' => ∃ v L, o = .returned v ∧ Q3_3_2 Z a1 p3 k1 w0 w1 w2 w3 w4 w5 h0 n0 v U'.heap L ∧ FrameEnd U o U' L ({ frames := 0, cells := 0, slots := 0, locals := 0 } : Room).cells ({ frames := 0, cells := 0, slots := 0, locals := 0 } : Room).slots) := by
  refine MetFree.of_bodySF (plainFor_of_name pn_3_3_2) hisR ?_
  intro p e s m args below meth c s₁ Bd hml0 hP hK
  obtain ⟨rfl, hZ, hh⟩ := hP
  have hx := Bd.exec
  have hby := Bd.bytes
  have hml : c.maxLocals = 3 := hml0
  have hown : s.vm.findClass "com/example/glottis/glottis/audio/Audio" = some m.cls := findClass_of_methodNamed Bd.named
  have hnm := (name_of_methodNamed Bd.named Bd.method).1
  have X0 : Stand p l e ({ frames := 0, cells := 0, slots := 0, locals := 0 } : Room) s m #[(.ref a1), (.int (2 : Int32)), (.int p3)] below meth c s₁ [] 0 0 := Stand.of_body Bd
  have e0 : s₁.heap = h0 := by rw [← hh, Bd.state]; rfl
  have N0 := Fr.nil n0
  have K0 : Keep h0 h0 [a1] := Keep.refl h0 [a1]
  obtain ⟨F0, hF0⟩ : ∃ F : JFrame, F = entryFrame m #[(.ref a1), (.int (2 : Int32)), (.int p3)] 3 := ⟨_, rfl⟩
  have pre0 : ∀ t, Steps p.tables e below (s₁.setTop F0) t → Steps p.tables e below (s₁.setTop (entryFrame m #[(.ref a1), (.int (2 : Int32)), (.int p3)] 3)) t := fun t k => hF0 ▸ k
  have go0 : Go p e below s₁ F0 s₁ (mkF m 0 #[vr a1, vi (2 : Int32), vi p3] []) := fun t k => castTop (hF0.trans (ef_3_3_2 m a1 p3)) k
  have go1 : Go p e below s₁ F0 s₁ (mkF m 6 #[vr a1, vi (2 : Int32), vi p3] [(.int (p3.toInt8.toInt32)), (.int (4 : Int32)), (.ref a1)]) := by
    intro t kt
    refine go0 t ?_
    refine o_aloadN X0 hx (hb hby d3_0) rfl rfl ?_
    refine o_iconst X0 hx (hb hby d3_1) (v := 2) rfl ?_
    refine o_iloadN X0 hx (hb hby d3_2) rfl ?_
    refine o_imulE X0 hx (hb hby d3_3) (v := 4) rfl ?_
    refine o_iloadN X0 hx (hb hby d3_4) rfl ?_
    refine o_i2b X0 hx (hb hby d3_5) ?_
    exact kt
  obtain ⟨cl2, Ar2, q2, Sz2, Nn2, Hs2, G2⟩ := id V0
  have hin2 : ¬ ((4 : Int32) < 0 ∨ cl2.slots.size ≤ ((4 : Int32)).toNatClampNeg) := inb_of Sz2 ⟨by decide, by decide⟩
  obtain ⟨T2, h2, X2, e2, W2, st2⟩ := stB X0 hx hZ e0 Ar2 (j := (4 : Int32)) hin2 (g := (mkF m 6 #[vr a1, vi (2 : Int32), vi p3] [(.int (p3.toInt8.toInt32)), (.int (4 : Int32)), (.ref a1)])) rfl rfl (hb hby d3_6)
  rw [own_nar_byte] at W2
  have V2 : Arv Z h2 a1 k1 .byte (6 : Int32) [(.int w0), (.int w1), (.int w2), (.int w3), (.int (p3.toInt8.toInt32)), (.int w5)] (.int (0 : Int32)) := Arv.set Ar2 q2 Sz2 Nn2 Hs2 G2 (fits_nar_byte _) W2 4 rfl (Nat.le_of_ble_eq_true rfl)
  have K3 : Keep h0 h2 [a1] := K0.wr W2 (Or.inl (List.mem_of_getElem? (i := 0) rfl))
  have Z3 : n0 ≤ h2.size := Nat.le_trans Z0 (Keep.of_wr W2).1
  have N2 := Fr.snoc X2 N0 g_a1
  have go4 : Go p e below s₁ F0 T2 (mkF m 7 #[vr a1, vi (2 : Int32), vi p3] []) := fun t k => go1 t (st2 t k)
  have go5 : Go p e below s₁ F0 T2 (mkF m 18 #[vr a1, vi (2 : Int32), vi p3] [(.int ((p3 >>> ((8 : Int32) &&& 31)).toInt8.toInt32)), (.int (5 : Int32)), (.ref a1)]) := by
    intro t kt
    refine go4 t ?_
    refine o_aloadN X2 hx (hb hby d3_7) rfl rfl ?_
    refine o_iconst X2 hx (hb hby d3_8) (v := 2) rfl ?_
    refine o_iloadN X2 hx (hb hby d3_9) rfl ?_
    refine o_imulE X2 hx (hb hby d3_10) (v := 4) rfl ?_
    refine o_iconst X2 hx (hb hby d3_11) (v := 1) rfl ?_
    refine o_iaddE X2 hx (hb hby d3_12) (v := 5) rfl ?_
    refine o_iloadN X2 hx (hb hby d3_13) rfl ?_
    refine o_bipush X2 hx (hb hby d3_14) (v := 8) rfl ?_
    refine o_ishr X2 hx (hb hby d3_16) ?_
    refine o_i2b X2 hx (hb hby d3_17) ?_
    exact kt
  obtain ⟨cl6, Ar6, q6, Sz6, Nn6, Hs6, G6⟩ := id V2
  have hin6 : ¬ ((5 : Int32) < 0 ∨ cl6.slots.size ≤ ((5 : Int32)).toNatClampNeg) := inb_of Sz6 ⟨by decide, by decide⟩
  obtain ⟨T6, h6, X6, e6, W6, st6⟩ := stB X2 hx hZ e2 Ar6 (j := (5 : Int32)) hin6 (g := (mkF m 18 #[vr a1, vi (2 : Int32), vi p3] [(.int ((p3 >>> ((8 : Int32) &&& 31)).toInt8.toInt32)), (.int (5 : Int32)), (.ref a1)])) rfl rfl (hb hby d3_18)
  rw [own_nar_byte] at W6
  have V6 : Arv Z h6 a1 k1 .byte (6 : Int32) [(.int w0), (.int w1), (.int w2), (.int w3), (.int (p3.toInt8.toInt32)), (.int ((p3 >>> ((8 : Int32) &&& 31)).toInt8.toInt32))] (.int (0 : Int32)) := Arv.set Ar6 q6 Sz6 Nn6 Hs6 G6 (fits_nar_byte _) W6 5 rfl (Nat.le_of_ble_eq_true rfl)
  have K7 : Keep h0 h6 [a1] := K3.wr W6 (Or.inl (List.mem_of_getElem? (i := 0) rfl))
  have Z7 : n0 ≤ h6.size := Nat.le_trans Z3 (Keep.of_wr W6).1
  have N6 := Fr.snoc X6 N2 g_a1
  have go8 : Go p e below s₁ F0 T6 (mkF m 19 #[vr a1, vi (2 : Int32), vi p3] []) := fun t k => go5 t (st6 t k)
  obtain ⟨fs, hr, hrun, hended, hW, hsame⟩ := X6.leave (v := none) (fun _ => rfl)
  refine ⟨_, _, pre0 _ (go8 _ ?_), hrun, hended, _, _, rfl, ?_, ⟨_, rfl⟩, hW, hsame.mono (by decide) (by decide)⟩
  · skip
    exact X6.returnOut hx Bd.returns (hb hby d3_19) hr
  · show Q3_3_2 Z a1 p3 k1 w0 w1 w2 w3 w4 w5 h0 n0 _ T6.heap _
    rw [e6]
    exact ⟨rfl, N6, K7, V6⟩

theorem d1_0 : decode prog_1_method_7_code 0 = .ok (.aload_n 0, 1) := by decide +kernel
theorem d1_1 : decode prog_1_method_7_code 1 = .ok (.arraylength, 1) := by decide +kernel
theorem d1_2 : decode prog_1_method_7_code 2 = .ok (.iconst 2, 1) := by decide +kernel
theorem d1_3 : decode prog_1_method_7_code 3 = .ok (.imul, 1) := by decide +kernel
theorem d1_4 : decode prog_1_method_7_code 4 = .ok (.newarray .byte, 2) := by decide +kernel
theorem d1_6 : decode prog_1_method_7_code 6 = .ok (.astore_n 1, 1) := by decide +kernel
theorem d1_7 : decode prog_1_method_7_code 7 = .ok (.iconst 0, 1) := by decide +kernel
theorem d1_8 : decode prog_1_method_7_code 8 = .ok (.istore_n 2, 1) := by decide +kernel
theorem d1_9 : decode prog_1_method_7_code 9 = .ok (.iload_n 2, 1) := by decide +kernel
theorem d1_10 : decode prog_1_method_7_code 10 = .ok (.aload_n 0, 1) := by decide +kernel
theorem d1_11 : decode prog_1_method_7_code 11 = .ok (.arraylength, 1) := by decide +kernel
theorem d1_12 : decode prog_1_method_7_code 12 = .ok (.if_icmp .ge 17, 3) := by decide +kernel
theorem d1_29 : decode prog_1_method_7_code 29 = .ok (.aload_n 1, 1) := by decide +kernel
theorem d1_30 : decode prog_1_method_7_code 30 = .ok (.areturn, 1) := by decide +kernel
theorem pn_1_0 : plainName "com/example/glottis/glottis/audio/Audio" = true := by first | (simp [plainName, overriddenIn]; done) | decide +kernel
theorem ef_1_0 (m : MethodId) (x0 : Addr) : entryFrame m #[(.ref x0)] 3 = mkF m 0 #[vr x0, .unset, .unset] [] := by first | (simp [entryFrame, mkF, argsToLocals, Value.category]; done) | rfl
def Q1_0 (Z : State) (a1 : Addr) (k1 : ClassId) (h0 : Heap) (n0 : Nat) (v : Option Value) (h : Heap) (L : List Loc) : Prop := ∃ b : Addr, ∃ kb : ClassId, v = some (.ref b) ∧ Fr n0 L ∧ Keep h0 h [] ∧ h0.size ≤ b ∧ Arv Z h b kb .byte (0 : Int32) [] (.int (0 : Int32))
set_option maxRecDepth 65536 in
set_option maxHeartbeats 40000000 in
theorem rm1_0 (l : Launch) (Z : State) (a0 : Array Value) (hw : ∀ d ∈ tables_1, d.before a0 Z = true) (ws : List Jvm.Cond) (a1 : Addr) (k1 : ClassId) (h0 : Heap) (n0 : Nat) (Z0 : n0 ≤ h0.size) (V0 : Arv Z h0 a1 k1 .short (0 : Int32) [] (.int (0 : Int32))) :
    MetFree l y_1 (head1 (Jvm.Cond.code y_1 prog_1_method_7_code 3 (some (.array .byte)) :: ws) ({ frames := 0, cells := 1, slots := 0, locals := 0 } : Room)) (fun a U => a = #[(.ref a1)] ∧ Z.Warmed39 U.vm ∧ U.heap = h0) (fun _ _ _ _ _ => True) (fun _ U o U' => ∃ v L, o = .returned v ∧ Q1_0 Z a1 k1 h0 n0 v U'.heap L ∧ FrameEnd U o U' L ({ frames := 0, cells := 1, slots := 0, locals := 0 } : Room).cells ({ frames := 0, cells := 1, slots := 0, locals := 0 } : Room).slots) := by
  refine MetFree.of_bodySF (plainFor_of_name pn_1_0) hisR ?_
  intro p e s m args below meth c s₁ Bd hml0 hP hK
  obtain ⟨rfl, hZ, hh⟩ := hP
  have hx := Bd.exec
  have hby := Bd.bytes
  have hml : c.maxLocals = 3 := hml0
  have hown : s.vm.findClass "com/example/glottis/glottis/audio/Audio" = some m.cls := findClass_of_methodNamed Bd.named
  have hnm := (name_of_methodNamed Bd.named Bd.method).1
  have X0 : Stand p l e ({ frames := 0, cells := 1, slots := 0, locals := 0 } : Room) s m #[(.ref a1)] below meth c s₁ [] 0 0 := Stand.of_body Bd
  have e0 : s₁.heap = h0 := by rw [← hh, Bd.state]; rfl
  have N0 := Fr.nil n0
  have K0 : Keep h0 h0 [] := Keep.refl h0 []
  obtain ⟨F0, hF0⟩ : ∃ F : JFrame, F = entryFrame m #[(.ref a1)] 3 := ⟨_, rfl⟩
  have pre0 : ∀ t, Steps p.tables e below (s₁.setTop F0) t → Steps p.tables e below (s₁.setTop (entryFrame m #[(.ref a1)] 3)) t := fun t k => hF0 ▸ k
  have go0 : Go p e below s₁ F0 s₁ (mkF m 0 #[vr a1, .unset, .unset] []) := fun t k => castTop (hF0.trans (ef_1_0 m a1)) k
  have go1 : Go p e below s₁ F0 s₁ (mkF m 1 #[vr a1, .unset, .unset] [(.ref a1)]) := by
    intro t kt
    refine go0 t ?_
    refine o_aloadN X0 hx (hb hby d1_0) rfl rfl ?_
    exact kt
  obtain ⟨cl2, Ar2, -, Sz2, Nn2, -, -⟩ := id V0
  have go3 : Go p e below s₁ F0 s₁ (mkF m 4 #[vr a1, .unset, .unset] [(.int (0 : Int32))]) := by
    intro t kt
    refine go1 t ?_
    refine o_len X0 hx hZ e0 Ar2 Sz2 Nn2 (hb hby d1_1) ?_
    refine o_iconst X0 hx (hb hby d1_2) (v := 2) rfl ?_
    refine o_imulE X0 hx (hb hby d1_3) (v := 0) rfl ?_
    exact kt
  obtain ⟨T4, h4, k4, X4, e4, E4, A4, st4⟩ := newP X0 hx hZ (own_w hw 5 rfl) e0 (g := (mkF m 4 #[vr a1, .unset, .unset] [(.int (0 : Int32))])) rfl (hb hby d1_4) rfl (by decide) (cap := 0) (by decide) (by decide) (by decide) (by decide)
  obtain ⟨b4, gz4⟩ : ∃ z, z = h0.size := ⟨_, rfl⟩
  rw [← gz4] at A4 st4
  have ne5 : a1 ≠ b4 := Nat.ne_of_lt (Nat.lt_of_lt_of_le V0.lt (Nat.le_of_eq gz4.symm))
  have g_b4 : n0 ≤ b4 := Nat.le_trans Z0 (Nat.le_of_eq gz4.symm)
  have sz_b4 : h0.size ≤ b4 := Nat.le_trans K0.1 (Nat.le_of_eq gz4.symm)
  have K6 : Keep h0 h4 [] := K0.ext E4
  have Z6 : n0 ≤ h4.size := Nat.le_trans Z0 E4.1
  have V4 : Arv Z h4 b4 k4 .byte (0 : Int32) [] (.int (0 : Int32)) := (Arv.new A4 (by decide)).pad (pad_rep [] (.int (0 : Int32)) 0)
  have go7 : Go p e below s₁ F0 T4 (mkF m 6 #[vr a1, .unset, .unset] [(.ref b4)]) := fun t k => go3 t (st4 t k)
  have F8 : Arv Z h4 a1 k1 .short (0 : Int32) [] (.int (0 : Int32)) := (V0.ext E4)
  have go9 : Go p e below s₁ F0 T4 (mkF m 11 #[vr a1, vr b4, vi (0 : Int32)] [(.ref a1), (.int (0 : Int32))]) := by
    intro t kt
    refine go7 t ?_
    refine o_astoreN X4 hx (hb hby d1_6) rfl (L' := #[vr a1, vr b4, .unset]) rfl ?_
    refine o_iconst X4 hx (hb hby d1_7) (v := 0) rfl ?_
    refine o_istoreN X4 hx (hb hby d1_8) (L' := #[vr a1, vr b4, vi (0 : Int32)]) rfl ?_
    refine o_iloadN X4 hx (hb hby d1_9) rfl ?_
    refine o_aloadN X4 hx (hb hby d1_10) rfl rfl ?_
    exact kt
  obtain ⟨cl10, Ar10, -, Sz10, Nn10, -, -⟩ := id F8
  have go11 : Go p e below s₁ F0 T4 (mkF m 30 #[vr a1, vr b4, vi (0 : Int32)] [(.ref b4)]) := by
    intro t kt
    refine go9 t ?_
    refine o_len X4 hx hZ e4 Ar10 Sz10 Nn10 (hb hby d1_11) ?_
    refine o_icmpYes X4 hx (hb hby d1_12) (pc' := 29) rfl (by decide) (flt (by decide : ¬ ((0 : Int32) < (0 : Int32)))).2.1 ?_
    refine o_aloadN X4 hx (hb hby d1_29) rfl rfl ?_
    exact kt
  obtain ⟨fs, hr, hrun, hended, hW, hsame⟩ := X4.leave (v := some (.ref b4)) (fun h => by rw [Bd.returns] at h; cases h)
  refine ⟨_, _, pre0 _ (go11 _ ?_), hrun, hended, _, _, rfl, ?_, ⟨_, rfl⟩, hW, hsame.mono (by decide) (by decide)⟩
  · skip
    exact retOut X4 hx Bd.returns rfl (Or.inr (Or.inr (Or.inr (Or.inr ⟨rfl, rfl, rfl⟩)))) (hb hby d1_30) hr
  · show Q1_0 Z a1 k1 h0 n0 _ T4.heap _
    rw [e4]
    exact ⟨b4, k4, rfl, N0, K6, sz_b4, V4⟩

theorem d1_15 : decode prog_1_method_7_code 15 = .ok (.aload_n 1, 1) := by decide +kernel
theorem d1_16 : decode prog_1_method_7_code 16 = .ok (.iload_n 2, 1) := by decide +kernel
theorem d1_17 : decode prog_1_method_7_code 17 = .ok (.aload_n 0, 1) := by decide +kernel
theorem d1_18 : decode prog_1_method_7_code 18 = .ok (.iload_n 2, 1) := by decide +kernel
theorem d1_19 : decode prog_1_method_7_code 19 = .ok (.saload, 1) := by decide +kernel
theorem d1_20 : decode prog_1_method_7_code 20 = .ok (.invokestatic 64, 3) := by decide +kernel
theorem d1_23 : decode prog_1_method_7_code 23 = .ok (.iinc 2 1, 3) := by decide +kernel
theorem d1_26 : decode prog_1_method_7_code 26 = .ok (.goto (-17), 3) := by decide +kernel
theorem pn_1_1 : plainName "com/example/glottis/glottis/audio/Audio" = true := by first | (simp [plainName, overriddenIn]; done) | decide +kernel
theorem pd1_1_0 : parseMethodDescriptor "([BIS)V" = some ⟨[(.array .byte), .int, .short], none⟩ := by decide +kernel
theorem ef_1_1 (m : MethodId) (x0 : Addr) : entryFrame m #[(.ref x0)] 3 = mkF m 0 #[vr x0, .unset, .unset] [] := by first | (simp [entryFrame, mkF, argsToLocals, Value.category]; done) | rfl
def Q1_1 (Z : State) (a1 : Addr) (k1 : ClassId) (w0 : Int32) (h0 : Heap) (n0 : Nat) (v : Option Value) (h : Heap) (L : List Loc) : Prop := ∃ b : Addr, ∃ kb : ClassId, v = some (.ref b) ∧ Fr n0 L ∧ Keep h0 h [] ∧ h0.size ≤ b ∧ Arv Z h b kb .byte (2 : Int32) [(.int (w0.toInt8.toInt32)), (.int ((w0 >>> ((8 : Int32) &&& 31)).toInt8.toInt32))] (.int (0 : Int32))
set_option maxRecDepth 65536 in
set_option maxHeartbeats 40000000 in
theorem rm1_1 (l : Launch) (Z : State) (a0 : Array Value) (hw : ∀ d ∈ tables_1, d.before a0 Z = true) (ws : List Jvm.Cond) (a1 : Addr) (k1 : ClassId) (w0 : Int32) (h0 : Heap) (n0 : Nat) (Z0 : n0 ≤ h0.size) (V0 : Arv Z h0 a1 k1 .short (1 : Int32) [(.int w0)] (.int (0 : Int32))) :
    MetFree l y_1 (head1 (Jvm.Cond.code y_1 prog_1_method_7_code 3 (some (.array .byte)) :: ws) ({ frames := 1, cells := 1, slots := 2, locals := 14 } : Room)) (fun a U => a = #[(.ref a1)] ∧ Z.Warmed39 U.vm ∧ U.heap = h0) (fun _ _ _ _ _ => True) (fun _ U o U' => ∃ v L, o = .returned v ∧ Q1_1 Z a1 k1 w0 h0 n0 v U'.heap L ∧ FrameEnd U o U' L ({ frames := 1, cells := 1, slots := 2, locals := 14 } : Room).cells ({ frames := 1, cells := 1, slots := 2, locals := 14 } : Room).slots) := by
  refine MetFree.of_bodySF (plainFor_of_name pn_1_1) hisR ?_
  intro p e s m args below meth c s₁ Bd hml0 hP hK
  obtain ⟨rfl, hZ, hh⟩ := hP
  have hx := Bd.exec
  have hby := Bd.bytes
  have hml : c.maxLocals = 3 := hml0
  have hown : s.vm.findClass "com/example/glottis/glottis/audio/Audio" = some m.cls := findClass_of_methodNamed Bd.named
  have hnm := (name_of_methodNamed Bd.named Bd.method).1
  have X0 : Stand p l e ({ frames := 1, cells := 1, slots := 2, locals := 14 } : Room) s m #[(.ref a1)] below meth c s₁ [] 0 0 := Stand.of_body Bd
  have e0 : s₁.heap = h0 := by rw [← hh, Bd.state]; rfl
  have N0 := Fr.nil n0
  have K0 : Keep h0 h0 [] := Keep.refl h0 []
  obtain ⟨F0, hF0⟩ : ∃ F : JFrame, F = entryFrame m #[(.ref a1)] 3 := ⟨_, rfl⟩
  have pre0 : ∀ t, Steps p.tables e below (s₁.setTop F0) t → Steps p.tables e below (s₁.setTop (entryFrame m #[(.ref a1)] 3)) t := fun t k => hF0 ▸ k
  have go0 : Go p e below s₁ F0 s₁ (mkF m 0 #[vr a1, .unset, .unset] []) := fun t k => castTop (hF0.trans (ef_1_1 m a1)) k
  have go1 : Go p e below s₁ F0 s₁ (mkF m 1 #[vr a1, .unset, .unset] [(.ref a1)]) := by
    intro t kt
    refine go0 t ?_
    refine o_aloadN X0 hx (hb hby d1_0) rfl rfl ?_
    exact kt
  obtain ⟨cl2, Ar2, -, Sz2, Nn2, -, -⟩ := id V0
  have go3 : Go p e below s₁ F0 s₁ (mkF m 4 #[vr a1, .unset, .unset] [(.int (2 : Int32))]) := by
    intro t kt
    refine go1 t ?_
    refine o_len X0 hx hZ e0 Ar2 Sz2 Nn2 (hb hby d1_1) ?_
    refine o_iconst X0 hx (hb hby d1_2) (v := 2) rfl ?_
    refine o_imulE X0 hx (hb hby d1_3) (v := 2) rfl ?_
    exact kt
  obtain ⟨T4, h4, k4, X4, e4, E4, A4, st4⟩ := newP X0 hx hZ (own_w hw 5 rfl) e0 (g := (mkF m 4 #[vr a1, .unset, .unset] [(.int (2 : Int32))])) rfl (hb hby d1_4) rfl (by decide) (cap := 2) (by decide) (by decide) (by decide) (by decide)
  obtain ⟨b4, gz4⟩ : ∃ z, z = h0.size := ⟨_, rfl⟩
  rw [← gz4] at A4 st4
  have ne5 : a1 ≠ b4 := Nat.ne_of_lt (Nat.lt_of_lt_of_le V0.lt (Nat.le_of_eq gz4.symm))
  have g_b4 : n0 ≤ b4 := Nat.le_trans Z0 (Nat.le_of_eq gz4.symm)
  have sz_b4 : h0.size ≤ b4 := Nat.le_trans K0.1 (Nat.le_of_eq gz4.symm)
  have K6 : Keep h0 h4 [] := K0.ext E4
  have Z6 : n0 ≤ h4.size := Nat.le_trans Z0 E4.1
  have V4 : Arv Z h4 b4 k4 .byte (2 : Int32) [(.int (0 : Int32)), (.int (0 : Int32))] (.int (0 : Int32)) := (Arv.new A4 (by decide)).pad (pad_rep [] (.int (0 : Int32)) 2)
  have go7 : Go p e below s₁ F0 T4 (mkF m 6 #[vr a1, .unset, .unset] [(.ref b4)]) := fun t k => go3 t (st4 t k)
  have F8 : Arv Z h4 a1 k1 .short (1 : Int32) [(.int w0)] (.int (0 : Int32)) := (V0.ext E4)
  have go9 : Go p e below s₁ F0 T4 (mkF m 11 #[vr a1, vr b4, vi (0 : Int32)] [(.ref a1), (.int (0 : Int32))]) := by
    intro t kt
    refine go7 t ?_
    refine o_astoreN X4 hx (hb hby d1_6) rfl (L' := #[vr a1, vr b4, .unset]) rfl ?_
    refine o_iconst X4 hx (hb hby d1_7) (v := 0) rfl ?_
    refine o_istoreN X4 hx (hb hby d1_8) (L' := #[vr a1, vr b4, vi (0 : Int32)]) rfl ?_
    refine o_iloadN X4 hx (hb hby d1_9) rfl ?_
    refine o_aloadN X4 hx (hb hby d1_10) rfl rfl ?_
    exact kt
  obtain ⟨cl10, Ar10, -, Sz10, Nn10, -, -⟩ := id F8
  have go11 : Go p e below s₁ F0 T4 (mkF m 19 #[vr a1, vr b4, vi (0 : Int32)] [(.int (0 : Int32)), (.ref a1), (.int (0 : Int32)), (.ref b4)]) := by
    intro t kt
    refine go9 t ?_
    refine o_len X4 hx hZ e4 Ar10 Sz10 Nn10 (hb hby d1_11) ?_
    refine o_icmpNo X4 hx (hb hby d1_12) (tlt (by decide : (0 : Int32) < (1 : Int32))).2.1 ?_
    refine o_aloadN X4 hx (hb hby d1_15) rfl rfl ?_
    refine o_iloadN X4 hx (hb hby d1_16) rfl ?_
    refine o_aloadN X4 hx (hb hby d1_17) rfl rfl ?_
    refine o_iloadN X4 hx (hb hby d1_18) rfl ?_
    exact kt
  obtain ⟨cl12, Ar12, -, Sz12, Nn12, Hs12, -⟩ := id F8
  have hin12 : ¬ ((0 : Int32) < 0 ∨ cl12.slots.size ≤ ((0 : Int32)).toNatClampNeg) := inb_of Sz12 ⟨by decide, by decide⟩
  have hat12 : cl12.slots[((0 : Int32)).toNatClampNeg]? = some (.int w0) := Hs12.at hin12 rfl
  have go13 : Go p e below s₁ F0 T4 (mkF m 20 #[vr a1, vr b4, vi (0 : Int32)] [(.int w0), (.int (0 : Int32)), (.ref b4)]) := by
    intro t kt
    refine go11 t ?_
    refine o_saload X4 hx hZ e4 Ar12 hin12 hat12 (hb hby d1_19) ?_
    exact kt
  obtain ⟨_, _, ⟨T14, L14, k14, n14⟩, -, X14, ⟨Lc14, hQ14, l14, y14, z14⟩, st14⟩ := Jvm.LawKit.callS X4 hx (y := y_0) hown (mvT hZ (own_w hw 10 rfl)) (mvT hZ (own_w hw 11 rfl)) (mvT hZ (own_w hw 3 rfl)) (mvT hZ (own_w hw 12 rfl)) (by decide) (backOf (W := 0) (rm3_1_0 l Z a0 hw [] b4 w0 k4 (0 : Int32) (0 : Int32) h4 n0 Z6 V4 g_b4) hZ (own_w hw 12 rfl) (own_w hw 3 rfl) (by decide) (by decide)) (g := (mkF m 20 #[vr a1, vr b4, vi (0 : Int32)] [(.int w0), (.int (0 : Int32)), (.ref b4)])) rfl (by rw [hml]; rfl) (argsL := [(.ref b4), (.int (0 : Int32)), (.int w0)]) (rest := []) (lenOf pd1_1_0 rfl) rfl (by show 2 * 0 + _ ≤ _; exact Nat.le_of_eq rfl) (hb hby d1_20) (fun _ _ => ⟨rfl, e4, (by decide : 1 + 0 ≤ _), (by decide : 2 + 0 ≤ _)⟩)
  dsimp only [Pt.U, Pt.locs, Pt.cells, Pt.slots] at X14 l14 y14 z14 st14 hQ14
  subst l14 y14 z14
  obtain ⟨rfl, Nq14, Kc14, V_14⟩ := hQ14
  have N14 := Fr.app N0 Nq14
  have K15 : Keep h0 T14.heap [] := K6.trans Kc14 (allS (Or.inr sz_b4) all0)
  have Z15 : n0 ≤ T14.heap.size := Nat.le_trans Z6 Kc14.1
  have go16 : Go p e below s₁ F0 T14 (mkF m 23 #[vr a1, vr b4, vi (0 : Int32)] []) := fun t k => go13 t (st14 t k)
  have F17 : Arv Z T14.heap a1 k1 .short (1 : Int32) [(.int w0)] (.int (0 : Int32)) := (F8.keep Kc14 (ninS ne5 nin0))
  have go18 : Go p e below s₁ F0 T14 (mkF m 11 #[vr a1, vr b4, vi (1 : Int32)] [(.ref a1), (.int (1 : Int32))]) := by
    intro t kt
    refine go16 t ?_
    refine o_iinc X14 hx (hb hby d1_23) rfl (L' := #[vr a1, vr b4, vi (1 : Int32)]) rfl ?_
    refine o_goto X14 hx (hb hby d1_26) (pc' := 9) rfl (by decide) ?_
    refine o_iloadN X14 hx (hb hby d1_9) rfl ?_
    refine o_aloadN X14 hx (hb hby d1_10) rfl rfl ?_
    exact kt
  obtain ⟨cl19, Ar19, -, Sz19, Nn19, -, -⟩ := id F17
  have go20 : Go p e below s₁ F0 T14 (mkF m 30 #[vr a1, vr b4, vi (1 : Int32)] [(.ref b4)]) := by
    intro t kt
    refine go18 t ?_
    refine o_len X14 hx hZ rfl Ar19 Sz19 Nn19 (hb hby d1_11) ?_
    refine o_icmpYes X14 hx (hb hby d1_12) (pc' := 29) rfl (by decide) (flt (by decide : ¬ ((1 : Int32) < (1 : Int32)))).2.1 ?_
    refine o_aloadN X14 hx (hb hby d1_29) rfl rfl ?_
    exact kt
  obtain ⟨fs, hr, hrun, hended, hW, hsame⟩ := X14.leave (v := some (.ref b4)) (fun h => by rw [Bd.returns] at h; cases h)
  refine ⟨_, _, pre0 _ (go20 _ ?_), hrun, hended, _, _, rfl, ?_, ⟨_, rfl⟩, hW, hsame.mono (by decide) (by decide)⟩
  · skip
    exact retOut X14 hx Bd.returns rfl (Or.inr (Or.inr (Or.inr (Or.inr ⟨rfl, rfl, rfl⟩)))) (hb hby d1_30) hr
  · show Q1_1 Z a1 k1 w0 h0 n0 _ T14.heap _
    exact ⟨b4, k4, rfl, N14, K15, sz_b4, V_14⟩

theorem pn_1_2 : plainName "com/example/glottis/glottis/audio/Audio" = true := by first | (simp [plainName, overriddenIn]; done) | decide +kernel
theorem pd1_2_0 : parseMethodDescriptor "([BIS)V" = some ⟨[(.array .byte), .int, .short], none⟩ := by decide +kernel
theorem ef_1_2 (m : MethodId) (x0 : Addr) : entryFrame m #[(.ref x0)] 3 = mkF m 0 #[vr x0, .unset, .unset] [] := by first | (simp [entryFrame, mkF, argsToLocals, Value.category]; done) | rfl
def Q1_2 (Z : State) (a1 : Addr) (k1 : ClassId) (w0 : Int32) (w1 : Int32) (h0 : Heap) (n0 : Nat) (v : Option Value) (h : Heap) (L : List Loc) : Prop := ∃ b : Addr, ∃ kb : ClassId, v = some (.ref b) ∧ Fr n0 L ∧ Keep h0 h [] ∧ h0.size ≤ b ∧ Arv Z h b kb .byte (4 : Int32) [(.int (w0.toInt8.toInt32)), (.int ((w0 >>> ((8 : Int32) &&& 31)).toInt8.toInt32)), (.int (w1.toInt8.toInt32)), (.int ((w1 >>> ((8 : Int32) &&& 31)).toInt8.toInt32))] (.int (0 : Int32))
set_option maxRecDepth 65536 in
set_option maxHeartbeats 40000000 in
theorem rm1_2 (l : Launch) (Z : State) (a0 : Array Value) (hw : ∀ d ∈ tables_1, d.before a0 Z = true) (ws : List Jvm.Cond) (a1 : Addr) (k1 : ClassId) (w0 : Int32) (w1 : Int32) (h0 : Heap) (n0 : Nat) (Z0 : n0 ≤ h0.size) (V0 : Arv Z h0 a1 k1 .short (2 : Int32) [(.int w0), (.int w1)] (.int (0 : Int32))) :
    MetFree l y_1 (head1 (Jvm.Cond.code y_1 prog_1_method_7_code 3 (some (.array .byte)) :: ws) ({ frames := 1, cells := 1, slots := 4, locals := 14 } : Room)) (fun a U => a = #[(.ref a1)] ∧ Z.Warmed39 U.vm ∧ U.heap = h0) (fun _ _ _ _ _ => True) (fun _ U o U' => ∃ v L, o = .returned v ∧ Q1_2 Z a1 k1 w0 w1 h0 n0 v U'.heap L ∧ FrameEnd U o U' L ({ frames := 1, cells := 1, slots := 4, locals := 14 } : Room).cells ({ frames := 1, cells := 1, slots := 4, locals := 14 } : Room).slots) := by
  refine MetFree.of_bodySF (plainFor_of_name pn_1_2) hisR ?_
  intro p e s m args below meth c s₁ Bd hml0 hP hK
  obtain ⟨rfl, hZ, hh⟩ := hP
  have hx := Bd.exec
  have hby := Bd.bytes
  have hml : c.maxLocals = 3 := hml0
  have hown : s.vm.findClass "com/example/glottis/glottis/audio/Audio" = some m.cls := findClass_of_methodNamed Bd.named
  have hnm := (name_of_methodNamed Bd.named Bd.method).1
  have X0 : Stand p l e ({ frames := 1, cells := 1, slots := 4, locals := 14 } : Room) s m #[(.ref a1)] below meth c s₁ [] 0 0 := Stand.of_body Bd
  have e0 : s₁.heap = h0 := by rw [← hh, Bd.state]; rfl
  have N0 := Fr.nil n0
  have K0 : Keep h0 h0 [] := Keep.refl h0 []
  obtain ⟨F0, hF0⟩ : ∃ F : JFrame, F = entryFrame m #[(.ref a1)] 3 := ⟨_, rfl⟩
  have pre0 : ∀ t, Steps p.tables e below (s₁.setTop F0) t → Steps p.tables e below (s₁.setTop (entryFrame m #[(.ref a1)] 3)) t := fun t k => hF0 ▸ k
  have go0 : Go p e below s₁ F0 s₁ (mkF m 0 #[vr a1, .unset, .unset] []) := fun t k => castTop (hF0.trans (ef_1_2 m a1)) k
  have go1 : Go p e below s₁ F0 s₁ (mkF m 1 #[vr a1, .unset, .unset] [(.ref a1)]) := by
    intro t kt
    refine go0 t ?_
    refine o_aloadN X0 hx (hb hby d1_0) rfl rfl ?_
    exact kt
  obtain ⟨cl2, Ar2, -, Sz2, Nn2, -, -⟩ := id V0
  have go3 : Go p e below s₁ F0 s₁ (mkF m 4 #[vr a1, .unset, .unset] [(.int (4 : Int32))]) := by
    intro t kt
    refine go1 t ?_
    refine o_len X0 hx hZ e0 Ar2 Sz2 Nn2 (hb hby d1_1) ?_
    refine o_iconst X0 hx (hb hby d1_2) (v := 2) rfl ?_
    refine o_imulE X0 hx (hb hby d1_3) (v := 4) rfl ?_
    exact kt
  obtain ⟨T4, h4, k4, X4, e4, E4, A4, st4⟩ := newP X0 hx hZ (own_w hw 5 rfl) e0 (g := (mkF m 4 #[vr a1, .unset, .unset] [(.int (4 : Int32))])) rfl (hb hby d1_4) rfl (by decide) (cap := 4) (by decide) (by decide) (by decide) (by decide)
  obtain ⟨b4, gz4⟩ : ∃ z, z = h0.size := ⟨_, rfl⟩
  rw [← gz4] at A4 st4
  have ne5 : a1 ≠ b4 := Nat.ne_of_lt (Nat.lt_of_lt_of_le V0.lt (Nat.le_of_eq gz4.symm))
  have g_b4 : n0 ≤ b4 := Nat.le_trans Z0 (Nat.le_of_eq gz4.symm)
  have sz_b4 : h0.size ≤ b4 := Nat.le_trans K0.1 (Nat.le_of_eq gz4.symm)
  have K6 : Keep h0 h4 [] := K0.ext E4
  have Z6 : n0 ≤ h4.size := Nat.le_trans Z0 E4.1
  have V4 : Arv Z h4 b4 k4 .byte (4 : Int32) [(.int (0 : Int32)), (.int (0 : Int32)), (.int (0 : Int32)), (.int (0 : Int32))] (.int (0 : Int32)) := (Arv.new A4 (by decide)).pad (pad_rep [] (.int (0 : Int32)) 4)
  have go7 : Go p e below s₁ F0 T4 (mkF m 6 #[vr a1, .unset, .unset] [(.ref b4)]) := fun t k => go3 t (st4 t k)
  have F8 : Arv Z h4 a1 k1 .short (2 : Int32) [(.int w0), (.int w1)] (.int (0 : Int32)) := (V0.ext E4)
  have go9 : Go p e below s₁ F0 T4 (mkF m 11 #[vr a1, vr b4, vi (0 : Int32)] [(.ref a1), (.int (0 : Int32))]) := by
    intro t kt
    refine go7 t ?_
    refine o_astoreN X4 hx (hb hby d1_6) rfl (L' := #[vr a1, vr b4, .unset]) rfl ?_
    refine o_iconst X4 hx (hb hby d1_7) (v := 0) rfl ?_
    refine o_istoreN X4 hx (hb hby d1_8) (L' := #[vr a1, vr b4, vi (0 : Int32)]) rfl ?_
    refine o_iloadN X4 hx (hb hby d1_9) rfl ?_
    refine o_aloadN X4 hx (hb hby d1_10) rfl rfl ?_
    exact kt
  obtain ⟨cl10, Ar10, -, Sz10, Nn10, -, -⟩ := id F8
  have go11 : Go p e below s₁ F0 T4 (mkF m 19 #[vr a1, vr b4, vi (0 : Int32)] [(.int (0 : Int32)), (.ref a1), (.int (0 : Int32)), (.ref b4)]) := by
    intro t kt
    refine go9 t ?_
    refine o_len X4 hx hZ e4 Ar10 Sz10 Nn10 (hb hby d1_11) ?_
    refine o_icmpNo X4 hx (hb hby d1_12) (tlt (by decide : (0 : Int32) < (2 : Int32))).2.1 ?_
    refine o_aloadN X4 hx (hb hby d1_15) rfl rfl ?_
    refine o_iloadN X4 hx (hb hby d1_16) rfl ?_
    refine o_aloadN X4 hx (hb hby d1_17) rfl rfl ?_
    refine o_iloadN X4 hx (hb hby d1_18) rfl ?_
    exact kt
  obtain ⟨cl12, Ar12, -, Sz12, Nn12, Hs12, -⟩ := id F8
  have hin12 : ¬ ((0 : Int32) < 0 ∨ cl12.slots.size ≤ ((0 : Int32)).toNatClampNeg) := inb_of Sz12 ⟨by decide, by decide⟩
  have hat12 : cl12.slots[((0 : Int32)).toNatClampNeg]? = some (.int w0) := Hs12.at hin12 rfl
  have go13 : Go p e below s₁ F0 T4 (mkF m 20 #[vr a1, vr b4, vi (0 : Int32)] [(.int w0), (.int (0 : Int32)), (.ref b4)]) := by
    intro t kt
    refine go11 t ?_
    refine o_saload X4 hx hZ e4 Ar12 hin12 hat12 (hb hby d1_19) ?_
    exact kt
  obtain ⟨_, _, ⟨T14, L14, k14, n14⟩, -, X14, ⟨Lc14, hQ14, l14, y14, z14⟩, st14⟩ := Jvm.LawKit.callS X4 hx (y := y_0) hown (mvT hZ (own_w hw 10 rfl)) (mvT hZ (own_w hw 11 rfl)) (mvT hZ (own_w hw 3 rfl)) (mvT hZ (own_w hw 12 rfl)) (by decide) (backOf (W := 0) (rm3_2_0 l Z a0 hw [] b4 w0 k4 (0 : Int32) (0 : Int32) (0 : Int32) (0 : Int32) h4 n0 Z6 V4 g_b4) hZ (own_w hw 12 rfl) (own_w hw 3 rfl) (by decide) (by decide)) (g := (mkF m 20 #[vr a1, vr b4, vi (0 : Int32)] [(.int w0), (.int (0 : Int32)), (.ref b4)])) rfl (by rw [hml]; rfl) (argsL := [(.ref b4), (.int (0 : Int32)), (.int w0)]) (rest := []) (lenOf pd1_2_0 rfl) rfl (by show 2 * 0 + _ ≤ _; exact Nat.le_of_eq rfl) (hb hby d1_20) (fun _ _ => ⟨rfl, e4, (by decide : 1 + 0 ≤ _), (by decide : 4 + 0 ≤ _)⟩)
  dsimp only [Pt.U, Pt.locs, Pt.cells, Pt.slots] at X14 l14 y14 z14 st14 hQ14
  subst l14 y14 z14
  obtain ⟨rfl, Nq14, Kc14, V_14⟩ := hQ14
  have N14 := Fr.app N0 Nq14
  have K15 : Keep h0 T14.heap [] := K6.trans Kc14 (allS (Or.inr sz_b4) all0)
  have Z15 : n0 ≤ T14.heap.size := Nat.le_trans Z6 Kc14.1
  have go16 : Go p e below s₁ F0 T14 (mkF m 23 #[vr a1, vr b4, vi (0 : Int32)] []) := fun t k => go13 t (st14 t k)
  have F17 : Arv Z T14.heap a1 k1 .short (2 : Int32) [(.int w0), (.int w1)] (.int (0 : Int32)) := (F8.keep Kc14 (ninS ne5 nin0))
  have go18 : Go p e below s₁ F0 T14 (mkF m 11 #[vr a1, vr b4, vi (1 : Int32)] [(.ref a1), (.int (1 : Int32))]) := by
    intro t kt
    refine go16 t ?_
    refine o_iinc X14 hx (hb hby d1_23) rfl (L' := #[vr a1, vr b4, vi (1 : Int32)]) rfl ?_
    refine o_goto X14 hx (hb hby d1_26) (pc' := 9) rfl (by decide) ?_
    refine o_iloadN X14 hx (hb hby d1_9) rfl ?_
    refine o_aloadN X14 hx (hb hby d1_10) rfl rfl ?_
    exact kt
  obtain ⟨cl19, Ar19, -, Sz19, Nn19, -, -⟩ := id F17
  have go20 : Go p e below s₁ F0 T14 (mkF m 19 #[vr a1, vr b4, vi (1 : Int32)] [(.int (1 : Int32)), (.ref a1), (.int (1 : Int32)), (.ref b4)]) := by
    intro t kt
    refine go18 t ?_
    refine o_len X14 hx hZ rfl Ar19 Sz19 Nn19 (hb hby d1_11) ?_
    refine o_icmpNo X14 hx (hb hby d1_12) (tlt (by decide : (1 : Int32) < (2 : Int32))).2.1 ?_
    refine o_aloadN X14 hx (hb hby d1_15) rfl rfl ?_
    refine o_iloadN X14 hx (hb hby d1_16) rfl ?_
    refine o_aloadN X14 hx (hb hby d1_17) rfl rfl ?_
    refine o_iloadN X14 hx (hb hby d1_18) rfl ?_
    exact kt
  obtain ⟨cl21, Ar21, -, Sz21, Nn21, Hs21, -⟩ := id F17
  have hin21 : ¬ ((1 : Int32) < 0 ∨ cl21.slots.size ≤ ((1 : Int32)).toNatClampNeg) := inb_of Sz21 ⟨by decide, by decide⟩
  have hat21 : cl21.slots[((1 : Int32)).toNatClampNeg]? = some (.int w1) := Hs21.at hin21 rfl
  have go22 : Go p e below s₁ F0 T14 (mkF m 20 #[vr a1, vr b4, vi (1 : Int32)] [(.int w1), (.int (1 : Int32)), (.ref b4)]) := by
    intro t kt
    refine go20 t ?_
    refine o_saload X14 hx hZ rfl Ar21 hin21 hat21 (hb hby d1_19) ?_
    exact kt
  obtain ⟨_, _, ⟨T23, L23, k23, n23⟩, -, X23, ⟨Lc23, hQ23, l23, y23, z23⟩, st23⟩ := Jvm.LawKit.callS X14 hx (y := y_0) hown (mvT hZ (own_w hw 10 rfl)) (mvT hZ (own_w hw 11 rfl)) (mvT hZ (own_w hw 3 rfl)) (mvT hZ (own_w hw 12 rfl)) (by decide) (backOf (W := 0) (rm3_2_1 l Z a0 hw [] b4 w1 k4 (w0.toInt8.toInt32) ((w0 >>> ((8 : Int32) &&& 31)).toInt8.toInt32) (0 : Int32) (0 : Int32) (T14.heap) n0 Z15 V_14 g_b4) hZ (own_w hw 12 rfl) (own_w hw 3 rfl) (by decide) (by decide)) (g := (mkF m 20 #[vr a1, vr b4, vi (1 : Int32)] [(.int w1), (.int (1 : Int32)), (.ref b4)])) rfl (by rw [hml]; rfl) (argsL := [(.ref b4), (.int (1 : Int32)), (.int w1)]) (rest := []) (lenOf pd1_2_0 rfl) rfl (by show 2 * 0 + _ ≤ _; exact Nat.le_of_eq rfl) (hb hby d1_20) (fun _ _ => ⟨rfl, rfl, (by decide : 1 + 0 ≤ _), (by decide : 4 + 0 ≤ _)⟩)
  dsimp only [Pt.U, Pt.locs, Pt.cells, Pt.slots] at X23 l23 y23 z23 st23 hQ23
  subst l23 y23 z23
  obtain ⟨rfl, Nq23, Kc23, V_23⟩ := hQ23
  have N23 := Fr.app N14 Nq23
  have K24 : Keep h0 T23.heap [] := K15.trans Kc23 (allS (Or.inr sz_b4) all0)
  have Z24 : n0 ≤ T23.heap.size := Nat.le_trans Z15 Kc23.1
  have go25 : Go p e below s₁ F0 T23 (mkF m 23 #[vr a1, vr b4, vi (1 : Int32)] []) := fun t k => go22 t (st23 t k)
  have F26 : Arv Z T23.heap a1 k1 .short (2 : Int32) [(.int w0), (.int w1)] (.int (0 : Int32)) := (F17.keep Kc23 (ninS ne5 nin0))
  have go27 : Go p e below s₁ F0 T23 (mkF m 11 #[vr a1, vr b4, vi (2 : Int32)] [(.ref a1), (.int (2 : Int32))]) := by
    intro t kt
    refine go25 t ?_
    refine o_iinc X23 hx (hb hby d1_23) rfl (L' := #[vr a1, vr b4, vi (2 : Int32)]) rfl ?_
    refine o_goto X23 hx (hb hby d1_26) (pc' := 9) rfl (by decide) ?_
    refine o_iloadN X23 hx (hb hby d1_9) rfl ?_
    refine o_aloadN X23 hx (hb hby d1_10) rfl rfl ?_
    exact kt
  obtain ⟨cl28, Ar28, -, Sz28, Nn28, -, -⟩ := id F26
  have go29 : Go p e below s₁ F0 T23 (mkF m 30 #[vr a1, vr b4, vi (2 : Int32)] [(.ref b4)]) := by
    intro t kt
    refine go27 t ?_
    refine o_len X23 hx hZ rfl Ar28 Sz28 Nn28 (hb hby d1_11) ?_
    refine o_icmpYes X23 hx (hb hby d1_12) (pc' := 29) rfl (by decide) (flt (by decide : ¬ ((2 : Int32) < (2 : Int32)))).2.1 ?_
    refine o_aloadN X23 hx (hb hby d1_29) rfl rfl ?_
    exact kt
  obtain ⟨fs, hr, hrun, hended, hW, hsame⟩ := X23.leave (v := some (.ref b4)) (fun h => by rw [Bd.returns] at h; cases h)
  refine ⟨_, _, pre0 _ (go29 _ ?_), hrun, hended, _, _, rfl, ?_, ⟨_, rfl⟩, hW, hsame.mono (by decide) (by decide)⟩
  · skip
    exact retOut X23 hx Bd.returns rfl (Or.inr (Or.inr (Or.inr (Or.inr ⟨rfl, rfl, rfl⟩)))) (hb hby d1_30) hr
  · show Q1_2 Z a1 k1 w0 w1 h0 n0 _ T23.heap _
    exact ⟨b4, k4, rfl, N23, K24, sz_b4, V_23⟩

theorem pn_1_3 : plainName "com/example/glottis/glottis/audio/Audio" = true := by first | (simp [plainName, overriddenIn]; done) | decide +kernel
theorem pd1_3_0 : parseMethodDescriptor "([BIS)V" = some ⟨[(.array .byte), .int, .short], none⟩ := by decide +kernel
theorem ef_1_3 (m : MethodId) (x0 : Addr) : entryFrame m #[(.ref x0)] 3 = mkF m 0 #[vr x0, .unset, .unset] [] := by first | (simp [entryFrame, mkF, argsToLocals, Value.category]; done) | rfl
def Q1_3 (Z : State) (a1 : Addr) (k1 : ClassId) (w0 : Int32) (w1 : Int32) (w2 : Int32) (h0 : Heap) (n0 : Nat) (v : Option Value) (h : Heap) (L : List Loc) : Prop := ∃ b : Addr, ∃ kb : ClassId, v = some (.ref b) ∧ Fr n0 L ∧ Keep h0 h [] ∧ h0.size ≤ b ∧ Arv Z h b kb .byte (6 : Int32) [(.int (w0.toInt8.toInt32)), (.int ((w0 >>> ((8 : Int32) &&& 31)).toInt8.toInt32)), (.int (w1.toInt8.toInt32)), (.int ((w1 >>> ((8 : Int32) &&& 31)).toInt8.toInt32)), (.int (w2.toInt8.toInt32)), (.int ((w2 >>> ((8 : Int32) &&& 31)).toInt8.toInt32))] (.int (0 : Int32))
set_option maxRecDepth 65536 in
set_option maxHeartbeats 40000000 in
theorem rm1_3 (l : Launch) (Z : State) (a0 : Array Value) (hw : ∀ d ∈ tables_1, d.before a0 Z = true) (ws : List Jvm.Cond) (a1 : Addr) (k1 : ClassId) (w0 : Int32) (w1 : Int32) (w2 : Int32) (h0 : Heap) (n0 : Nat) (Z0 : n0 ≤ h0.size) (V0 : Arv Z h0 a1 k1 .short (3 : Int32) [(.int w0), (.int w1), (.int w2)] (.int (0 : Int32))) :
    MetFree l y_1 (head1 (Jvm.Cond.code y_1 prog_1_method_7_code 3 (some (.array .byte)) :: ws) ({ frames := 1, cells := 1, slots := 6, locals := 14 } : Room)) (fun a U => a = #[(.ref a1)] ∧ Z.Warmed39 U.vm ∧ U.heap = h0) (fun _ _ _ _ _ => True) (fun _ U o U' => ∃ v L, o = .returned v ∧ Q1_3 Z a1 k1 w0 w1 w2 h0 n0 v U'.heap L ∧ FrameEnd U o U' L ({ frames := 1, cells := 1, slots := 6, locals := 14 } : Room).cells ({ frames := 1, cells := 1, slots := 6, locals := 14 } : Room).slots) := by
  refine MetFree.of_bodySF (plainFor_of_name pn_1_3) hisR ?_
  intro p e s m args below meth c s₁ Bd hml0 hP hK
  obtain ⟨rfl, hZ, hh⟩ := hP
  have hx := Bd.exec
  have hby := Bd.bytes
  have hml : c.maxLocals = 3 := hml0
  have hown : s.vm.findClass "com/example/glottis/glottis/audio/Audio" = some m.cls := findClass_of_methodNamed Bd.named
  have hnm := (name_of_methodNamed Bd.named Bd.method).1
  have X0 : Stand p l e ({ frames := 1, cells := 1, slots := 6, locals := 14 } : Room) s m #[(.ref a1)] below meth c s₁ [] 0 0 := Stand.of_body Bd
  have e0 : s₁.heap = h0 := by rw [← hh, Bd.state]; rfl
  have N0 := Fr.nil n0
  have K0 : Keep h0 h0 [] := Keep.refl h0 []
  obtain ⟨F0, hF0⟩ : ∃ F : JFrame, F = entryFrame m #[(.ref a1)] 3 := ⟨_, rfl⟩
  have pre0 : ∀ t, Steps p.tables e below (s₁.setTop F0) t → Steps p.tables e below (s₁.setTop (entryFrame m #[(.ref a1)] 3)) t := fun t k => hF0 ▸ k
  have go0 : Go p e below s₁ F0 s₁ (mkF m 0 #[vr a1, .unset, .unset] []) := fun t k => castTop (hF0.trans (ef_1_3 m a1)) k
  have go1 : Go p e below s₁ F0 s₁ (mkF m 1 #[vr a1, .unset, .unset] [(.ref a1)]) := by
    intro t kt
    refine go0 t ?_
    refine o_aloadN X0 hx (hb hby d1_0) rfl rfl ?_
    exact kt
  obtain ⟨cl2, Ar2, -, Sz2, Nn2, -, -⟩ := id V0
  have go3 : Go p e below s₁ F0 s₁ (mkF m 4 #[vr a1, .unset, .unset] [(.int (6 : Int32))]) := by
    intro t kt
    refine go1 t ?_
    refine o_len X0 hx hZ e0 Ar2 Sz2 Nn2 (hb hby d1_1) ?_
    refine o_iconst X0 hx (hb hby d1_2) (v := 2) rfl ?_
    refine o_imulE X0 hx (hb hby d1_3) (v := 6) rfl ?_
    exact kt
  obtain ⟨T4, h4, k4, X4, e4, E4, A4, st4⟩ := newP X0 hx hZ (own_w hw 5 rfl) e0 (g := (mkF m 4 #[vr a1, .unset, .unset] [(.int (6 : Int32))])) rfl (hb hby d1_4) rfl (by decide) (cap := 6) (by decide) (by decide) (by decide) (by decide)
  obtain ⟨b4, gz4⟩ : ∃ z, z = h0.size := ⟨_, rfl⟩
  rw [← gz4] at A4 st4
  have ne5 : a1 ≠ b4 := Nat.ne_of_lt (Nat.lt_of_lt_of_le V0.lt (Nat.le_of_eq gz4.symm))
  have g_b4 : n0 ≤ b4 := Nat.le_trans Z0 (Nat.le_of_eq gz4.symm)
  have sz_b4 : h0.size ≤ b4 := Nat.le_trans K0.1 (Nat.le_of_eq gz4.symm)
  have K6 : Keep h0 h4 [] := K0.ext E4
  have Z6 : n0 ≤ h4.size := Nat.le_trans Z0 E4.1
  have V4 : Arv Z h4 b4 k4 .byte (6 : Int32) [(.int (0 : Int32)), (.int (0 : Int32)), (.int (0 : Int32)), (.int (0 : Int32)), (.int (0 : Int32)), (.int (0 : Int32))] (.int (0 : Int32)) := (Arv.new A4 (by decide)).pad (pad_rep [] (.int (0 : Int32)) 6)
  have go7 : Go p e below s₁ F0 T4 (mkF m 6 #[vr a1, .unset, .unset] [(.ref b4)]) := fun t k => go3 t (st4 t k)
  have F8 : Arv Z h4 a1 k1 .short (3 : Int32) [(.int w0), (.int w1), (.int w2)] (.int (0 : Int32)) := (V0.ext E4)
  have go9 : Go p e below s₁ F0 T4 (mkF m 11 #[vr a1, vr b4, vi (0 : Int32)] [(.ref a1), (.int (0 : Int32))]) := by
    intro t kt
    refine go7 t ?_
    refine o_astoreN X4 hx (hb hby d1_6) rfl (L' := #[vr a1, vr b4, .unset]) rfl ?_
    refine o_iconst X4 hx (hb hby d1_7) (v := 0) rfl ?_
    refine o_istoreN X4 hx (hb hby d1_8) (L' := #[vr a1, vr b4, vi (0 : Int32)]) rfl ?_
    refine o_iloadN X4 hx (hb hby d1_9) rfl ?_
    refine o_aloadN X4 hx (hb hby d1_10) rfl rfl ?_
    exact kt
  obtain ⟨cl10, Ar10, -, Sz10, Nn10, -, -⟩ := id F8
  have go11 : Go p e below s₁ F0 T4 (mkF m 19 #[vr a1, vr b4, vi (0 : Int32)] [(.int (0 : Int32)), (.ref a1), (.int (0 : Int32)), (.ref b4)]) := by
    intro t kt
    refine go9 t ?_
    refine o_len X4 hx hZ e4 Ar10 Sz10 Nn10 (hb hby d1_11) ?_
    refine o_icmpNo X4 hx (hb hby d1_12) (tlt (by decide : (0 : Int32) < (3 : Int32))).2.1 ?_
    refine o_aloadN X4 hx (hb hby d1_15) rfl rfl ?_
    refine o_iloadN X4 hx (hb hby d1_16) rfl ?_
    refine o_aloadN X4 hx (hb hby d1_17) rfl rfl ?_
    refine o_iloadN X4 hx (hb hby d1_18) rfl ?_
    exact kt
  obtain ⟨cl12, Ar12, -, Sz12, Nn12, Hs12, -⟩ := id F8
  have hin12 : ¬ ((0 : Int32) < 0 ∨ cl12.slots.size ≤ ((0 : Int32)).toNatClampNeg) := inb_of Sz12 ⟨by decide, by decide⟩
  have hat12 : cl12.slots[((0 : Int32)).toNatClampNeg]? = some (.int w0) := Hs12.at hin12 rfl
  have go13 : Go p e below s₁ F0 T4 (mkF m 20 #[vr a1, vr b4, vi (0 : Int32)] [(.int w0), (.int (0 : Int32)), (.ref b4)]) := by
    intro t kt
    refine go11 t ?_
    refine o_saload X4 hx hZ e4 Ar12 hin12 hat12 (hb hby d1_19) ?_
    exact kt
  obtain ⟨_, _, ⟨T14, L14, k14, n14⟩, -, X14, ⟨Lc14, hQ14, l14, y14, z14⟩, st14⟩ := Jvm.LawKit.callS X4 hx (y := y_0) hown (mvT hZ (own_w hw 10 rfl)) (mvT hZ (own_w hw 11 rfl)) (mvT hZ (own_w hw 3 rfl)) (mvT hZ (own_w hw 12 rfl)) (by decide) (backOf (W := 0) (rm3_3_0 l Z a0 hw [] b4 w0 k4 (0 : Int32) (0 : Int32) (0 : Int32) (0 : Int32) (0 : Int32) (0 : Int32) h4 n0 Z6 V4 g_b4) hZ (own_w hw 12 rfl) (own_w hw 3 rfl) (by decide) (by decide)) (g := (mkF m 20 #[vr a1, vr b4, vi (0 : Int32)] [(.int w0), (.int (0 : Int32)), (.ref b4)])) rfl (by rw [hml]; rfl) (argsL := [(.ref b4), (.int (0 : Int32)), (.int w0)]) (rest := []) (lenOf pd1_3_0 rfl) rfl (by show 2 * 0 + _ ≤ _; exact Nat.le_of_eq rfl) (hb hby d1_20) (fun _ _ => ⟨rfl, e4, (by decide : 1 + 0 ≤ _), (by decide : 6 + 0 ≤ _)⟩)
  dsimp only [Pt.U, Pt.locs, Pt.cells, Pt.slots] at X14 l14 y14 z14 st14 hQ14
  subst l14 y14 z14
  obtain ⟨rfl, Nq14, Kc14, V_14⟩ := hQ14
  have N14 := Fr.app N0 Nq14
  have K15 : Keep h0 T14.heap [] := K6.trans Kc14 (allS (Or.inr sz_b4) all0)
  have Z15 : n0 ≤ T14.heap.size := Nat.le_trans Z6 Kc14.1
  have go16 : Go p e below s₁ F0 T14 (mkF m 23 #[vr a1, vr b4, vi (0 : Int32)] []) := fun t k => go13 t (st14 t k)
  have F17 : Arv Z T14.heap a1 k1 .short (3 : Int32) [(.int w0), (.int w1), (.int w2)] (.int (0 : Int32)) := (F8.keep Kc14 (ninS ne5 nin0))
  have go18 : Go p e below s₁ F0 T14 (mkF m 11 #[vr a1, vr b4, vi (1 : Int32)] [(.ref a1), (.int (1 : Int32))]) := by
    intro t kt
    refine go16 t ?_
    refine o_iinc X14 hx (hb hby d1_23) rfl (L' := #[vr a1, vr b4, vi (1 : Int32)]) rfl ?_
    refine o_goto X14 hx (hb hby d1_26) (pc' := 9) rfl (by decide) ?_
    refine o_iloadN X14 hx (hb hby d1_9) rfl ?_
    refine o_aloadN X14 hx (hb hby d1_10) rfl rfl ?_
    exact kt
  obtain ⟨cl19, Ar19, -, Sz19, Nn19, -, -⟩ := id F17
  have go20 : Go p e below s₁ F0 T14 (mkF m 19 #[vr a1, vr b4, vi (1 : Int32)] [(.int (1 : Int32)), (.ref a1), (.int (1 : Int32)), (.ref b4)]) := by
    intro t kt
    refine go18 t ?_
    refine o_len X14 hx hZ rfl Ar19 Sz19 Nn19 (hb hby d1_11) ?_
    refine o_icmpNo X14 hx (hb hby d1_12) (tlt (by decide : (1 : Int32) < (3 : Int32))).2.1 ?_
    refine o_aloadN X14 hx (hb hby d1_15) rfl rfl ?_
    refine o_iloadN X14 hx (hb hby d1_16) rfl ?_
    refine o_aloadN X14 hx (hb hby d1_17) rfl rfl ?_
    refine o_iloadN X14 hx (hb hby d1_18) rfl ?_
    exact kt
  obtain ⟨cl21, Ar21, -, Sz21, Nn21, Hs21, -⟩ := id F17
  have hin21 : ¬ ((1 : Int32) < 0 ∨ cl21.slots.size ≤ ((1 : Int32)).toNatClampNeg) := inb_of Sz21 ⟨by decide, by decide⟩
  have hat21 : cl21.slots[((1 : Int32)).toNatClampNeg]? = some (.int w1) := Hs21.at hin21 rfl
  have go22 : Go p e below s₁ F0 T14 (mkF m 20 #[vr a1, vr b4, vi (1 : Int32)] [(.int w1), (.int (1 : Int32)), (.ref b4)]) := by
    intro t kt
    refine go20 t ?_
    refine o_saload X14 hx hZ rfl Ar21 hin21 hat21 (hb hby d1_19) ?_
    exact kt
  obtain ⟨_, _, ⟨T23, L23, k23, n23⟩, -, X23, ⟨Lc23, hQ23, l23, y23, z23⟩, st23⟩ := Jvm.LawKit.callS X14 hx (y := y_0) hown (mvT hZ (own_w hw 10 rfl)) (mvT hZ (own_w hw 11 rfl)) (mvT hZ (own_w hw 3 rfl)) (mvT hZ (own_w hw 12 rfl)) (by decide) (backOf (W := 0) (rm3_3_1 l Z a0 hw [] b4 w1 k4 (w0.toInt8.toInt32) ((w0 >>> ((8 : Int32) &&& 31)).toInt8.toInt32) (0 : Int32) (0 : Int32) (0 : Int32) (0 : Int32) (T14.heap) n0 Z15 V_14 g_b4) hZ (own_w hw 12 rfl) (own_w hw 3 rfl) (by decide) (by decide)) (g := (mkF m 20 #[vr a1, vr b4, vi (1 : Int32)] [(.int w1), (.int (1 : Int32)), (.ref b4)])) rfl (by rw [hml]; rfl) (argsL := [(.ref b4), (.int (1 : Int32)), (.int w1)]) (rest := []) (lenOf pd1_3_0 rfl) rfl (by show 2 * 0 + _ ≤ _; exact Nat.le_of_eq rfl) (hb hby d1_20) (fun _ _ => ⟨rfl, rfl, (by decide : 1 + 0 ≤ _), (by decide : 6 + 0 ≤ _)⟩)
  dsimp only [Pt.U, Pt.locs, Pt.cells, Pt.slots] at X23 l23 y23 z23 st23 hQ23
  subst l23 y23 z23
  obtain ⟨rfl, Nq23, Kc23, V_23⟩ := hQ23
  have N23 := Fr.app N14 Nq23
  have K24 : Keep h0 T23.heap [] := K15.trans Kc23 (allS (Or.inr sz_b4) all0)
  have Z24 : n0 ≤ T23.heap.size := Nat.le_trans Z15 Kc23.1
  have go25 : Go p e below s₁ F0 T23 (mkF m 23 #[vr a1, vr b4, vi (1 : Int32)] []) := fun t k => go22 t (st23 t k)
  have F26 : Arv Z T23.heap a1 k1 .short (3 : Int32) [(.int w0), (.int w1), (.int w2)] (.int (0 : Int32)) := (F17.keep Kc23 (ninS ne5 nin0))
  have go27 : Go p e below s₁ F0 T23 (mkF m 11 #[vr a1, vr b4, vi (2 : Int32)] [(.ref a1), (.int (2 : Int32))]) := by
    intro t kt
    refine go25 t ?_
    refine o_iinc X23 hx (hb hby d1_23) rfl (L' := #[vr a1, vr b4, vi (2 : Int32)]) rfl ?_
    refine o_goto X23 hx (hb hby d1_26) (pc' := 9) rfl (by decide) ?_
    refine o_iloadN X23 hx (hb hby d1_9) rfl ?_
    refine o_aloadN X23 hx (hb hby d1_10) rfl rfl ?_
    exact kt
  obtain ⟨cl28, Ar28, -, Sz28, Nn28, -, -⟩ := id F26
  have go29 : Go p e below s₁ F0 T23 (mkF m 19 #[vr a1, vr b4, vi (2 : Int32)] [(.int (2 : Int32)), (.ref a1), (.int (2 : Int32)), (.ref b4)]) := by
    intro t kt
    refine go27 t ?_
    refine o_len X23 hx hZ rfl Ar28 Sz28 Nn28 (hb hby d1_11) ?_
    refine o_icmpNo X23 hx (hb hby d1_12) (tlt (by decide : (2 : Int32) < (3 : Int32))).2.1 ?_
    refine o_aloadN X23 hx (hb hby d1_15) rfl rfl ?_
    refine o_iloadN X23 hx (hb hby d1_16) rfl ?_
    refine o_aloadN X23 hx (hb hby d1_17) rfl rfl ?_
    refine o_iloadN X23 hx (hb hby d1_18) rfl ?_
    exact kt
  obtain ⟨cl30, Ar30, -, Sz30, Nn30, Hs30, -⟩ := id F26
  have hin30 : ¬ ((2 : Int32) < 0 ∨ cl30.slots.size ≤ ((2 : Int32)).toNatClampNeg) := inb_of Sz30 ⟨by decide, by decide⟩
  have hat30 : cl30.slots[((2 : Int32)).toNatClampNeg]? = some (.int w2) := Hs30.at hin30 rfl
  have go31 : Go p e below s₁ F0 T23 (mkF m 20 #[vr a1, vr b4, vi (2 : Int32)] [(.int w2), (.int (2 : Int32)), (.ref b4)]) := by
    intro t kt
    refine go29 t ?_
    refine o_saload X23 hx hZ rfl Ar30 hin30 hat30 (hb hby d1_19) ?_
    exact kt
  obtain ⟨_, _, ⟨T32, L32, k32, n32⟩, -, X32, ⟨Lc32, hQ32, l32, y32, z32⟩, st32⟩ := Jvm.LawKit.callS X23 hx (y := y_0) hown (mvT hZ (own_w hw 10 rfl)) (mvT hZ (own_w hw 11 rfl)) (mvT hZ (own_w hw 3 rfl)) (mvT hZ (own_w hw 12 rfl)) (by decide) (backOf (W := 0) (rm3_3_2 l Z a0 hw [] b4 w2 k4 (w0.toInt8.toInt32) ((w0 >>> ((8 : Int32) &&& 31)).toInt8.toInt32) (w1.toInt8.toInt32) ((w1 >>> ((8 : Int32) &&& 31)).toInt8.toInt32) (0 : Int32) (0 : Int32) (T23.heap) n0 Z24 V_23 g_b4) hZ (own_w hw 12 rfl) (own_w hw 3 rfl) (by decide) (by decide)) (g := (mkF m 20 #[vr a1, vr b4, vi (2 : Int32)] [(.int w2), (.int (2 : Int32)), (.ref b4)])) rfl (by rw [hml]; rfl) (argsL := [(.ref b4), (.int (2 : Int32)), (.int w2)]) (rest := []) (lenOf pd1_3_0 rfl) rfl (by show 2 * 0 + _ ≤ _; exact Nat.le_of_eq rfl) (hb hby d1_20) (fun _ _ => ⟨rfl, rfl, (by decide : 1 + 0 ≤ _), (by decide : 6 + 0 ≤ _)⟩)
  dsimp only [Pt.U, Pt.locs, Pt.cells, Pt.slots] at X32 l32 y32 z32 st32 hQ32
  subst l32 y32 z32
  obtain ⟨rfl, Nq32, Kc32, V_32⟩ := hQ32
  have N32 := Fr.app N23 Nq32
  have K33 : Keep h0 T32.heap [] := K24.trans Kc32 (allS (Or.inr sz_b4) all0)
  have Z33 : n0 ≤ T32.heap.size := Nat.le_trans Z24 Kc32.1
  have go34 : Go p e below s₁ F0 T32 (mkF m 23 #[vr a1, vr b4, vi (2 : Int32)] []) := fun t k => go31 t (st32 t k)
  have F35 : Arv Z T32.heap a1 k1 .short (3 : Int32) [(.int w0), (.int w1), (.int w2)] (.int (0 : Int32)) := (F26.keep Kc32 (ninS ne5 nin0))
  have go36 : Go p e below s₁ F0 T32 (mkF m 11 #[vr a1, vr b4, vi (3 : Int32)] [(.ref a1), (.int (3 : Int32))]) := by
    intro t kt
    refine go34 t ?_
    refine o_iinc X32 hx (hb hby d1_23) rfl (L' := #[vr a1, vr b4, vi (3 : Int32)]) rfl ?_
    refine o_goto X32 hx (hb hby d1_26) (pc' := 9) rfl (by decide) ?_
    refine o_iloadN X32 hx (hb hby d1_9) rfl ?_
    refine o_aloadN X32 hx (hb hby d1_10) rfl rfl ?_
    exact kt
  obtain ⟨cl37, Ar37, -, Sz37, Nn37, -, -⟩ := id F35
  have go38 : Go p e below s₁ F0 T32 (mkF m 30 #[vr a1, vr b4, vi (3 : Int32)] [(.ref b4)]) := by
    intro t kt
    refine go36 t ?_
    refine o_len X32 hx hZ rfl Ar37 Sz37 Nn37 (hb hby d1_11) ?_
    refine o_icmpYes X32 hx (hb hby d1_12) (pc' := 29) rfl (by decide) (flt (by decide : ¬ ((3 : Int32) < (3 : Int32)))).2.1 ?_
    refine o_aloadN X32 hx (hb hby d1_29) rfl rfl ?_
    exact kt
  obtain ⟨fs, hr, hrun, hended, hW, hsame⟩ := X32.leave (v := some (.ref b4)) (fun h => by rw [Bd.returns] at h; cases h)
  refine ⟨_, _, pre0 _ (go38 _ ?_), hrun, hended, _, _, rfl, ?_, ⟨_, rfl⟩, hW, hsame.mono (by decide) (by decide)⟩
  · skip
    exact retOut X32 hx Bd.returns rfl (Or.inr (Or.inr (Or.inr (Or.inr ⟨rfl, rfl, rfl⟩)))) (hb hby d1_30) hr
  · show Q1_3 Z a1 k1 w0 w1 w2 h0 n0 _ T32.heap _
    exact ⟨b4, k4, rfl, N32, K33, sz_b4, V_32⟩

theorem d2_0 : decode method_3_code 0 = .ok (.iload_n 1, 1) := by decide +kernel
theorem d2_1 : decode method_3_code 1 = .ok (.iload_n 2, 1) := by decide +kernel
theorem d2_2 : decode method_3_code 2 = .ok (.if_icmp .lt 5, 3) := by decide +kernel
theorem d2_5 : decode method_3_code 5 = .ok (.iconst 1, 1) := by decide +kernel
theorem d2_6 : decode method_3_code 6 = .ok (.ireturn, 1) := by decide +kernel
theorem pn_2_0_0 : plainName "com/example/glottis/glottis/audio/AudioBytesPinLaw" = true := by first | (simp [plainName, overriddenIn]; done) | decide +kernel
theorem ef_2_0_0 (m : MethodId) (x0 : Addr) (x3 : Int32) : entryFrame m #[(.ref x0), (.int (0 : Int32)), (.int (0 : Int32)), (.int x3)] 6 = mkF m 0 #[vr x0, vi (0 : Int32), vi (0 : Int32), vi x3, .unset, .unset] [] := by first | (simp [entryFrame, mkF, argsToLocals, Value.category]; done) | rfl
def Q2_0_0 (Z : State) (a1 : Addr) (p4 : Int32) (h0 : Heap) (n0 : Nat) (v : Option Value) (h : Heap) (L : List Loc) : Prop := v = some (.int (1 : Int32)) ∧ Fr n0 L ∧ h = h0
set_option maxRecDepth 65536 in
set_option maxHeartbeats 40000000 in
theorem rm2_0_0 (l : Launch) (Z : State) (a0 : Array Value) (hw : ∀ d ∈ tables_1, d.before a0 Z = true) (ws : List Jvm.Cond) (a1 : Addr) (p4 : Int32) (h0 : Heap) (n0 : Nat) (Z0 : n0 ≤ h0.size) :
    MetFree l y_2 (head1 (Jvm.Cond.code y_2 method_3_code 6 (some .boolean) :: ws) ({ frames := 0, cells := 0, slots := 0, locals := 0 } : Room)) (fun a U => a = #[(.ref a1), (.int (0 : Int32)), (.int (0 : Int32)), (.int p4)] ∧ Z.Warmed39 U.vm ∧ U.heap = h0) (fun _ _ _ _ _ => True) (fun _ U o U' => ∃ v L, o = .returned v ∧ Q2_0_0 Z a1 p4 h0 n0 v U'.heap L ∧ FrameEnd U o U' L ({ frames := 0, cells := 0, slots := 0, locals := 0 } : Room).cells ({ frames := 0, cells := 0, slots := 0, locals := 0 } : Room).slots) := by
  refine MetFree.of_bodySF (plainFor_of_name pn_2_0_0) hisR ?_
  intro p e s m args below meth c s₁ Bd hml0 hP hK
  obtain ⟨rfl, hZ, hh⟩ := hP
  have hx := Bd.exec
  have hby := Bd.bytes
  have hml : c.maxLocals = 6 := hml0
  have hown : s.vm.findClass "com/example/glottis/glottis/audio/AudioBytesPinLaw" = some m.cls := findClass_of_methodNamed Bd.named
  have hnm := (name_of_methodNamed Bd.named Bd.method).1
  have X0 : Stand p l e ({ frames := 0, cells := 0, slots := 0, locals := 0 } : Room) s m #[(.ref a1), (.int (0 : Int32)), (.int (0 : Int32)), (.int p4)] below meth c s₁ [] 0 0 := Stand.of_body Bd
  have e0 : s₁.heap = h0 := by rw [← hh, Bd.state]; rfl
  have N0 := Fr.nil n0
  obtain ⟨F0, hF0⟩ : ∃ F : JFrame, F = entryFrame m #[(.ref a1), (.int (0 : Int32)), (.int (0 : Int32)), (.int p4)] 6 := ⟨_, rfl⟩
  have pre0 : ∀ t, Steps p.tables e below (s₁.setTop F0) t → Steps p.tables e below (s₁.setTop (entryFrame m #[(.ref a1), (.int (0 : Int32)), (.int (0 : Int32)), (.int p4)] 6)) t := fun t k => hF0 ▸ k
  have go0 : Go p e below s₁ F0 s₁ (mkF m 0 #[vr a1, vi (0 : Int32), vi (0 : Int32), vi p4, .unset, .unset] []) := fun t k => castTop (hF0.trans (ef_2_0_0 m a1 p4)) k
  have go1 : Go p e below s₁ F0 s₁ (mkF m 6 #[vr a1, vi (0 : Int32), vi (0 : Int32), vi p4, .unset, .unset] [(.int (1 : Int32))]) := by
    intro t kt
    refine go0 t ?_
    refine o_iloadN X0 hx (hb hby d2_0) rfl ?_
    refine o_iloadN X0 hx (hb hby d2_1) rfl ?_
    refine o_icmpNo X0 hx (hb hby d2_2) (flt (by decide : ¬ ((0 : Int32) < (0 : Int32)))).1 ?_
    refine o_iconst X0 hx (hb hby d2_5) (v := 1) rfl ?_
    exact kt
  obtain ⟨fs, hr, hrun, hended, hW, hsame⟩ := X0.leave (v := some (.int (1 : Int32))) (fun h => by rw [Bd.returns] at h; cases h)
  refine ⟨_, _, pre0 _ (go1 _ ?_), hrun, hended, _, _, rfl, ?_, ⟨_, rfl⟩, hW, hsame.mono (by decide) (by decide)⟩
  · skip
    exact retN X0 hx (t := .boolean) Bd.returns (by simp) (hb hby d2_6) hr
  · show Q2_0_0 Z a1 p4 h0 n0 _ s₁.heap _
    rw [e0]
    exact ⟨rfl, N0, rfl⟩

theorem pn_2_0_1 : plainName "com/example/glottis/glottis/audio/AudioBytesPinLaw" = true := by first | (simp [plainName, overriddenIn]; done) | decide +kernel
theorem ef_2_0_1 (m : MethodId) (x0 : Addr) (x3 : Int32) : entryFrame m #[(.ref x0), (.int (1 : Int32)), (.int (0 : Int32)), (.int x3)] 6 = mkF m 0 #[vr x0, vi (1 : Int32), vi (0 : Int32), vi x3, .unset, .unset] [] := by first | (simp [entryFrame, mkF, argsToLocals, Value.category]; done) | rfl
def Q2_0_1 (Z : State) (a1 : Addr) (p4 : Int32) (h0 : Heap) (n0 : Nat) (v : Option Value) (h : Heap) (L : List Loc) : Prop := v = some (.int (1 : Int32)) ∧ Fr n0 L ∧ h = h0
set_option maxRecDepth 65536 in
set_option maxHeartbeats 40000000 in
theorem rm2_0_1 (l : Launch) (Z : State) (a0 : Array Value) (hw : ∀ d ∈ tables_1, d.before a0 Z = true) (ws : List Jvm.Cond) (a1 : Addr) (p4 : Int32) (h0 : Heap) (n0 : Nat) (Z0 : n0 ≤ h0.size) :
    MetFree l y_2 (head1 (Jvm.Cond.code y_2 method_3_code 6 (some .boolean) :: ws) ({ frames := 0, cells := 0, slots := 0, locals := 0 } : Room)) (fun a U => a = #[(.ref a1), (.int (1 : Int32)), (.int (0 : Int32)), (.int p4)] ∧ Z.Warmed39 U.vm ∧ U.heap = h0) (fun _ _ _ _ _ => True) (fun _ U o U' => ∃ v L, o = .returned v ∧ Q2_0_1 Z a1 p4 h0 n0 v U'.heap L ∧ FrameEnd U o U' L ({ frames := 0, cells := 0, slots := 0, locals := 0 } : Room).cells ({ frames := 0, cells := 0, slots := 0, locals := 0 } : Room).slots) := by
  refine MetFree.of_bodySF (plainFor_of_name pn_2_0_1) hisR ?_
  intro p e s m args below meth c s₁ Bd hml0 hP hK
  obtain ⟨rfl, hZ, hh⟩ := hP
  have hx := Bd.exec
  have hby := Bd.bytes
  have hml : c.maxLocals = 6 := hml0
  have hown : s.vm.findClass "com/example/glottis/glottis/audio/AudioBytesPinLaw" = some m.cls := findClass_of_methodNamed Bd.named
  have hnm := (name_of_methodNamed Bd.named Bd.method).1
  have X0 : Stand p l e ({ frames := 0, cells := 0, slots := 0, locals := 0 } : Room) s m #[(.ref a1), (.int (1 : Int32)), (.int (0 : Int32)), (.int p4)] below meth c s₁ [] 0 0 := Stand.of_body Bd
  have e0 : s₁.heap = h0 := by rw [← hh, Bd.state]; rfl
  have N0 := Fr.nil n0
  obtain ⟨F0, hF0⟩ : ∃ F : JFrame, F = entryFrame m #[(.ref a1), (.int (1 : Int32)), (.int (0 : Int32)), (.int p4)] 6 := ⟨_, rfl⟩
  have pre0 : ∀ t, Steps p.tables e below (s₁.setTop F0) t → Steps p.tables e below (s₁.setTop (entryFrame m #[(.ref a1), (.int (1 : Int32)), (.int (0 : Int32)), (.int p4)] 6)) t := fun t k => hF0 ▸ k
  have go0 : Go p e below s₁ F0 s₁ (mkF m 0 #[vr a1, vi (1 : Int32), vi (0 : Int32), vi p4, .unset, .unset] []) := fun t k => castTop (hF0.trans (ef_2_0_1 m a1 p4)) k
  have go1 : Go p e below s₁ F0 s₁ (mkF m 6 #[vr a1, vi (1 : Int32), vi (0 : Int32), vi p4, .unset, .unset] [(.int (1 : Int32))]) := by
    intro t kt
    refine go0 t ?_
    refine o_iloadN X0 hx (hb hby d2_0) rfl ?_
    refine o_iloadN X0 hx (hb hby d2_1) rfl ?_
    refine o_icmpNo X0 hx (hb hby d2_2) (flt (by decide : ¬ ((1 : Int32) < (0 : Int32)))).1 ?_
    refine o_iconst X0 hx (hb hby d2_5) (v := 1) rfl ?_
    exact kt
  obtain ⟨fs, hr, hrun, hended, hW, hsame⟩ := X0.leave (v := some (.int (1 : Int32))) (fun h => by rw [Bd.returns] at h; cases h)
  refine ⟨_, _, pre0 _ (go1 _ ?_), hrun, hended, _, _, rfl, ?_, ⟨_, rfl⟩, hW, hsame.mono (by decide) (by decide)⟩
  · skip
    exact retN X0 hx (t := .boolean) Bd.returns (by simp) (hb hby d2_6) hr
  · show Q2_0_1 Z a1 p4 h0 n0 _ s₁.heap _
    rw [e0]
    exact ⟨rfl, N0, rfl⟩

theorem pn_2_0_2 : plainName "com/example/glottis/glottis/audio/AudioBytesPinLaw" = true := by first | (simp [plainName, overriddenIn]; done) | decide +kernel
theorem ef_2_0_2 (m : MethodId) (x0 : Addr) (x3 : Int32) : entryFrame m #[(.ref x0), (.int (2 : Int32)), (.int (0 : Int32)), (.int x3)] 6 = mkF m 0 #[vr x0, vi (2 : Int32), vi (0 : Int32), vi x3, .unset, .unset] [] := by first | (simp [entryFrame, mkF, argsToLocals, Value.category]; done) | rfl
def Q2_0_2 (Z : State) (a1 : Addr) (p4 : Int32) (h0 : Heap) (n0 : Nat) (v : Option Value) (h : Heap) (L : List Loc) : Prop := v = some (.int (1 : Int32)) ∧ Fr n0 L ∧ h = h0
set_option maxRecDepth 65536 in
set_option maxHeartbeats 40000000 in
theorem rm2_0_2 (l : Launch) (Z : State) (a0 : Array Value) (hw : ∀ d ∈ tables_1, d.before a0 Z = true) (ws : List Jvm.Cond) (a1 : Addr) (p4 : Int32) (h0 : Heap) (n0 : Nat) (Z0 : n0 ≤ h0.size) :
    MetFree l y_2 (head1 (Jvm.Cond.code y_2 method_3_code 6 (some .boolean) :: ws) ({ frames := 0, cells := 0, slots := 0, locals := 0 } : Room)) (fun a U => a = #[(.ref a1), (.int (2 : Int32)), (.int (0 : Int32)), (.int p4)] ∧ Z.Warmed39 U.vm ∧ U.heap = h0) (fun _ _ _ _ _ => True) (fun _ U o U' => ∃ v L, o = .returned v ∧ Q2_0_2 Z a1 p4 h0 n0 v U'.heap L ∧ FrameEnd U o U' L ({ frames := 0, cells := 0, slots := 0, locals := 0 } : Room).cells ({ frames := 0, cells := 0, slots := 0, locals := 0 } : Room).slots) := by
  refine MetFree.of_bodySF (plainFor_of_name pn_2_0_2) hisR ?_
  intro p e s m args below meth c s₁ Bd hml0 hP hK
  obtain ⟨rfl, hZ, hh⟩ := hP
  have hx := Bd.exec
  have hby := Bd.bytes
  have hml : c.maxLocals = 6 := hml0
  have hown : s.vm.findClass "com/example/glottis/glottis/audio/AudioBytesPinLaw" = some m.cls := findClass_of_methodNamed Bd.named
  have hnm := (name_of_methodNamed Bd.named Bd.method).1
  have X0 : Stand p l e ({ frames := 0, cells := 0, slots := 0, locals := 0 } : Room) s m #[(.ref a1), (.int (2 : Int32)), (.int (0 : Int32)), (.int p4)] below meth c s₁ [] 0 0 := Stand.of_body Bd
  have e0 : s₁.heap = h0 := by rw [← hh, Bd.state]; rfl
  have N0 := Fr.nil n0
  obtain ⟨F0, hF0⟩ : ∃ F : JFrame, F = entryFrame m #[(.ref a1), (.int (2 : Int32)), (.int (0 : Int32)), (.int p4)] 6 := ⟨_, rfl⟩
  have pre0 : ∀ t, Steps p.tables e below (s₁.setTop F0) t → Steps p.tables e below (s₁.setTop (entryFrame m #[(.ref a1), (.int (2 : Int32)), (.int (0 : Int32)), (.int p4)] 6)) t := fun t k => hF0 ▸ k
  have go0 : Go p e below s₁ F0 s₁ (mkF m 0 #[vr a1, vi (2 : Int32), vi (0 : Int32), vi p4, .unset, .unset] []) := fun t k => castTop (hF0.trans (ef_2_0_2 m a1 p4)) k
  have go1 : Go p e below s₁ F0 s₁ (mkF m 6 #[vr a1, vi (2 : Int32), vi (0 : Int32), vi p4, .unset, .unset] [(.int (1 : Int32))]) := by
    intro t kt
    refine go0 t ?_
    refine o_iloadN X0 hx (hb hby d2_0) rfl ?_
    refine o_iloadN X0 hx (hb hby d2_1) rfl ?_
    refine o_icmpNo X0 hx (hb hby d2_2) (flt (by decide : ¬ ((2 : Int32) < (0 : Int32)))).1 ?_
    refine o_iconst X0 hx (hb hby d2_5) (v := 1) rfl ?_
    exact kt
  obtain ⟨fs, hr, hrun, hended, hW, hsame⟩ := X0.leave (v := some (.int (1 : Int32))) (fun h => by rw [Bd.returns] at h; cases h)
  refine ⟨_, _, pre0 _ (go1 _ ?_), hrun, hended, _, _, rfl, ?_, ⟨_, rfl⟩, hW, hsame.mono (by decide) (by decide)⟩
  · skip
    exact retN X0 hx (t := .boolean) Bd.returns (by simp) (hb hby d2_6) hr
  · show Q2_0_2 Z a1 p4 h0 n0 _ s₁.heap _
    rw [e0]
    exact ⟨rfl, N0, rfl⟩

theorem d2_7 : decode method_3_code 7 = .ok (.aload_n 0, 1) := by decide +kernel
theorem d2_8 : decode method_3_code 8 = .ok (.iconst 2, 1) := by decide +kernel
theorem d2_9 : decode method_3_code 9 = .ok (.iload_n 1, 1) := by decide +kernel
theorem d2_10 : decode method_3_code 10 = .ok (.imul, 1) := by decide +kernel
theorem d2_11 : decode method_3_code 11 = .ok (.baload, 1) := by decide +kernel
theorem d2_12 : decode method_3_code 12 = .ok (.sipush 255, 3) := by decide +kernel
theorem d2_15 : decode method_3_code 15 = .ok (.iand, 1) := by decide +kernel
theorem d2_16 : decode method_3_code 16 = .ok (.istore 4, 2) := by decide +kernel
theorem d2_18 : decode method_3_code 18 = .ok (.aload_n 0, 1) := by decide +kernel
theorem d2_19 : decode method_3_code 19 = .ok (.iconst 2, 1) := by decide +kernel
theorem d2_20 : decode method_3_code 20 = .ok (.iload_n 1, 1) := by decide +kernel
theorem d2_21 : decode method_3_code 21 = .ok (.imul, 1) := by decide +kernel
theorem d2_22 : decode method_3_code 22 = .ok (.iconst 1, 1) := by decide +kernel
theorem d2_23 : decode method_3_code 23 = .ok (.iadd, 1) := by decide +kernel
theorem d2_24 : decode method_3_code 24 = .ok (.baload, 1) := by decide +kernel
theorem d2_25 : decode method_3_code 25 = .ok (.sipush 255, 3) := by decide +kernel
theorem d2_28 : decode method_3_code 28 = .ok (.iand, 1) := by decide +kernel
theorem d2_29 : decode method_3_code 29 = .ok (.istore 5, 2) := by decide +kernel
theorem d2_31 : decode method_3_code 31 = .ok (.iload 5, 2) := by decide +kernel
theorem d2_33 : decode method_3_code 33 = .ok (.sipush 256, 3) := by decide +kernel
theorem d2_36 : decode method_3_code 36 = .ok (.imul, 1) := by decide +kernel
theorem d2_37 : decode method_3_code 37 = .ok (.iload 4, 2) := by decide +kernel
theorem d2_39 : decode method_3_code 39 = .ok (.iadd, 1) := by decide +kernel
theorem d2_40 : decode method_3_code 40 = .ok (.iload_n 3, 1) := by decide +kernel
theorem d2_41 : decode method_3_code 41 = .ok (.ldc 19, 2) := by decide +kernel
theorem d2_43 : decode method_3_code 43 = .ok (.iand, 1) := by decide +kernel
theorem d2_44 : decode method_3_code 44 = .ok (.if_icmp .ne 7, 3) := by decide +kernel
theorem d2_47 : decode method_3_code 47 = .ok (.iconst 1, 1) := by decide +kernel
theorem d2_48 : decode method_3_code 48 = .ok (.goto 4, 3) := by decide +kernel
theorem d2_52 : decode method_3_code 52 = .ok (.ireturn, 1) := by decide +kernel
theorem pn_2_1_0 : plainName "com/example/glottis/glottis/audio/AudioBytesPinLaw" = true := by first | (simp [plainName, overriddenIn]; done) | decide +kernel
theorem ef_2_1_0 (m : MethodId) (x0 : Addr) (x3 : Int32) : entryFrame m #[(.ref x0), (.int (0 : Int32)), (.int (1 : Int32)), (.int x3)] 6 = mkF m 0 #[vr x0, vi (0 : Int32), vi (1 : Int32), vi x3, .unset, .unset] [] := by first | (simp [entryFrame, mkF, argsToLocals, Value.category]; done) | rfl
def Q2_1_0 (Z : State) (a1 : Addr) (p4 : Int32) (k1 : ClassId) (w0 : Int32) (w1 : Int32) (h0 : Heap) (n0 : Nat) (v : Option Value) (h : Heap) (L : List Loc) : Prop := v = some (.int (1 : Int32)) ∧ Fr n0 L ∧ h = h0
set_option maxRecDepth 65536 in
set_option maxHeartbeats 40000000 in
theorem rm2_1_0 (l : Launch) (Z : State) (a0 : Array Value) (hw : ∀ d ∈ tables_1, d.before a0 Z = true) (ws : List Jvm.Cond) (a1 : Addr) (p4 : Int32) (k1 : ClassId) (w0 : Int32) (w1 : Int32) (h0 : Heap) (n0 : Nat) (Z0 : n0 ≤ h0.size) (V0 : Arv Z h0 a1 k1 .byte (2 : Int32) [(.int w0), (.int w1)] (.int (0 : Int32))) (hv : (((w1 &&& (255 : Int32)) * (256 : Int32)) + (w0 &&& (255 : Int32))) = (p4 &&& (65535 : Int32))) :
    MetFree l y_2 (head1 (Jvm.Cond.code y_2 method_3_code 6 (some .boolean) :: ws) ({ frames := 0, cells := 0, slots := 0, locals := 0 } : Room)) (fun a U => a = #[(.ref a1), (.int (0 : Int32)), (.int (1 : Int32)), (.int p4)] ∧ Z.Warmed39 U.vm ∧ U.heap = h0) (fun _ _ _ _ _ => True) (fun _ U o U' => ∃ v L, o = .returned v ∧ Q2_1_0 Z a1 p4 k1 w0 w1 h0 n0 v U'.heap L ∧ FrameEnd U o U' L ({ frames := 0, cells := 0, slots := 0, locals := 0 } : Room).cells ({ frames := 0, cells := 0, slots := 0, locals := 0 } : Room).slots) := by
  refine MetFree.of_bodySF (plainFor_of_name pn_2_1_0) hisR ?_
  intro p e s m args below meth c s₁ Bd hml0 hP hK
  obtain ⟨rfl, hZ, hh⟩ := hP
  have hx := Bd.exec
  have hby := Bd.bytes
  have hml : c.maxLocals = 6 := hml0
  have hown : s.vm.findClass "com/example/glottis/glottis/audio/AudioBytesPinLaw" = some m.cls := findClass_of_methodNamed Bd.named
  have hnm := (name_of_methodNamed Bd.named Bd.method).1
  have X0 : Stand p l e ({ frames := 0, cells := 0, slots := 0, locals := 0 } : Room) s m #[(.ref a1), (.int (0 : Int32)), (.int (1 : Int32)), (.int p4)] below meth c s₁ [] 0 0 := Stand.of_body Bd
  have e0 : s₁.heap = h0 := by rw [← hh, Bd.state]; rfl
  have N0 := Fr.nil n0
  obtain ⟨F0, hF0⟩ : ∃ F : JFrame, F = entryFrame m #[(.ref a1), (.int (0 : Int32)), (.int (1 : Int32)), (.int p4)] 6 := ⟨_, rfl⟩
  have pre0 : ∀ t, Steps p.tables e below (s₁.setTop F0) t → Steps p.tables e below (s₁.setTop (entryFrame m #[(.ref a1), (.int (0 : Int32)), (.int (1 : Int32)), (.int p4)] 6)) t := fun t k => hF0 ▸ k
  have go0 : Go p e below s₁ F0 s₁ (mkF m 0 #[vr a1, vi (0 : Int32), vi (1 : Int32), vi p4, .unset, .unset] []) := fun t k => castTop (hF0.trans (ef_2_1_0 m a1 p4)) k
  have go1 : Go p e below s₁ F0 s₁ (mkF m 11 #[vr a1, vi (0 : Int32), vi (1 : Int32), vi p4, .unset, .unset] [(.int (0 : Int32)), (.ref a1)]) := by
    intro t kt
    refine go0 t ?_
    refine o_iloadN X0 hx (hb hby d2_0) rfl ?_
    refine o_iloadN X0 hx (hb hby d2_1) rfl ?_
    refine o_icmpYes X0 hx (hb hby d2_2) (pc' := 7) rfl (by decide) (tlt (by decide : (0 : Int32) < (1 : Int32))).1 ?_
    refine o_aloadN X0 hx (hb hby d2_7) rfl rfl ?_
    refine o_iconst X0 hx (hb hby d2_8) (v := 2) rfl ?_
    refine o_iloadN X0 hx (hb hby d2_9) rfl ?_
    refine o_imulE X0 hx (hb hby d2_10) (v := 0) rfl ?_
    exact kt
  obtain ⟨cl2, Ar2, -, Sz2, Nn2, Hs2, -⟩ := id V0
  have hin2 : ¬ ((0 : Int32) < 0 ∨ cl2.slots.size ≤ ((0 : Int32)).toNatClampNeg) := inb_of Sz2 ⟨by decide, by decide⟩
  have hat2 : cl2.slots[((0 : Int32)).toNatClampNeg]? = some (.int w0) := Hs2.at hin2 rfl
  have go3 : Go p e below s₁ F0 s₁ (mkF m 24 #[vr a1, vi (0 : Int32), vi (1 : Int32), vi p4, vi (w0 &&& (255 : Int32)), .unset] [(.int (1 : Int32)), (.ref a1)]) := by
    intro t kt
    refine go1 t ?_
    refine o_baload X0 hx hZ e0 Ar2 hin2 hat2 (hb hby d2_11) ?_
    refine o_sipush X0 hx (hb hby d2_12) (v := 255) rfl ?_
    refine o_iand X0 hx (hb hby d2_15) ?_
    refine o_istore X0 hx (hb hby d2_16) (L' := #[vr a1, vi (0 : Int32), vi (1 : Int32), vi p4, vi (w0 &&& (255 : Int32)), .unset]) rfl ?_
    refine o_aloadN X0 hx (hb hby d2_18) rfl rfl ?_
    refine o_iconst X0 hx (hb hby d2_19) (v := 2) rfl ?_
    refine o_iloadN X0 hx (hb hby d2_20) rfl ?_
    refine o_imulE X0 hx (hb hby d2_21) (v := 0) rfl ?_
    refine o_iconst X0 hx (hb hby d2_22) (v := 1) rfl ?_
    refine o_iaddE X0 hx (hb hby d2_23) (v := 1) rfl ?_
    exact kt
  obtain ⟨cl4, Ar4, -, Sz4, Nn4, Hs4, -⟩ := id V0
  have hin4 : ¬ ((1 : Int32) < 0 ∨ cl4.slots.size ≤ ((1 : Int32)).toNatClampNeg) := inb_of Sz4 ⟨by decide, by decide⟩
  have hat4 : cl4.slots[((1 : Int32)).toNatClampNeg]? = some (.int w1) := Hs4.at hin4 rfl
  have go5 : Go p e below s₁ F0 s₁ (mkF m 52 #[vr a1, vi (0 : Int32), vi (1 : Int32), vi p4, vi (w0 &&& (255 : Int32)), vi (w1 &&& (255 : Int32))] [(.int (1 : Int32))]) := by
    intro t kt
    refine go3 t ?_
    refine o_baload X0 hx hZ e0 Ar4 hin4 hat4 (hb hby d2_24) ?_
    refine o_sipush X0 hx (hb hby d2_25) (v := 255) rfl ?_
    refine o_iand X0 hx (hb hby d2_28) ?_
    refine o_istore X0 hx (hb hby d2_29) (L' := #[vr a1, vi (0 : Int32), vi (1 : Int32), vi p4, vi (w0 &&& (255 : Int32)), vi (w1 &&& (255 : Int32))]) rfl ?_
    refine o_iload X0 hx (hb hby d2_31) rfl ?_
    refine o_sipush X0 hx (hb hby d2_33) (v := 256) rfl ?_
    refine o_imul X0 hx (hb hby d2_36) ?_
    refine o_iload X0 hx (hb hby d2_37) rfl ?_
    refine o_iadd X0 hx (hb hby d2_39) ?_
    refine o_iloadN X0 hx (hb hby d2_40) rfl ?_
    refine o_ldc X0 hx hown (mvT hZ (own_w hw 13 rfl)) (hb hby d2_41) ?_
    refine o_iand X0 hx (hb hby d2_43) ?_
    refine o_icmpNo X0 hx (hb hby d2_44) (teq hv).2 ?_
    refine o_iconst X0 hx (hb hby d2_47) (v := 1) rfl ?_
    refine o_goto X0 hx (hb hby d2_48) (pc' := 52) rfl (by decide) ?_
    exact kt
  obtain ⟨fs, hr, hrun, hended, hW, hsame⟩ := X0.leave (v := some (.int (1 : Int32))) (fun h => by rw [Bd.returns] at h; cases h)
  refine ⟨_, _, pre0 _ (go5 _ ?_), hrun, hended, _, _, rfl, ?_, ⟨_, rfl⟩, hW, hsame.mono (by decide) (by decide)⟩
  · skip
    exact retN X0 hx (t := .boolean) Bd.returns (by simp) (hb hby d2_52) hr
  · show Q2_1_0 Z a1 p4 k1 w0 w1 h0 n0 _ s₁.heap _
    rw [e0]
    exact ⟨rfl, N0, rfl⟩

theorem pn_2_1_1 : plainName "com/example/glottis/glottis/audio/AudioBytesPinLaw" = true := by first | (simp [plainName, overriddenIn]; done) | decide +kernel
theorem ef_2_1_1 (m : MethodId) (x0 : Addr) (x3 : Int32) : entryFrame m #[(.ref x0), (.int (1 : Int32)), (.int (1 : Int32)), (.int x3)] 6 = mkF m 0 #[vr x0, vi (1 : Int32), vi (1 : Int32), vi x3, .unset, .unset] [] := by first | (simp [entryFrame, mkF, argsToLocals, Value.category]; done) | rfl
def Q2_1_1 (Z : State) (a1 : Addr) (p4 : Int32) (h0 : Heap) (n0 : Nat) (v : Option Value) (h : Heap) (L : List Loc) : Prop := v = some (.int (1 : Int32)) ∧ Fr n0 L ∧ h = h0
set_option maxRecDepth 65536 in
set_option maxHeartbeats 40000000 in
theorem rm2_1_1 (l : Launch) (Z : State) (a0 : Array Value) (hw : ∀ d ∈ tables_1, d.before a0 Z = true) (ws : List Jvm.Cond) (a1 : Addr) (p4 : Int32) (h0 : Heap) (n0 : Nat) (Z0 : n0 ≤ h0.size) :
    MetFree l y_2 (head1 (Jvm.Cond.code y_2 method_3_code 6 (some .boolean) :: ws) ({ frames := 0, cells := 0, slots := 0, locals := 0 } : Room)) (fun a U => a = #[(.ref a1), (.int (1 : Int32)), (.int (1 : Int32)), (.int p4)] ∧ Z.Warmed39 U.vm ∧ U.heap = h0) (fun _ _ _ _ _ => True) (fun _ U o U' => ∃ v L, o = .returned v ∧ Q2_1_1 Z a1 p4 h0 n0 v U'.heap L ∧ FrameEnd U o U' L ({ frames := 0, cells := 0, slots := 0, locals := 0 } : Room).cells ({ frames := 0, cells := 0, slots := 0, locals := 0 } : Room).slots) := by
  refine MetFree.of_bodySF (plainFor_of_name pn_2_1_1) hisR ?_
  intro p e s m args below meth c s₁ Bd hml0 hP hK
  obtain ⟨rfl, hZ, hh⟩ := hP
  have hx := Bd.exec
  have hby := Bd.bytes
  have hml : c.maxLocals = 6 := hml0
  have hown : s.vm.findClass "com/example/glottis/glottis/audio/AudioBytesPinLaw" = some m.cls := findClass_of_methodNamed Bd.named
  have hnm := (name_of_methodNamed Bd.named Bd.method).1
  have X0 : Stand p l e ({ frames := 0, cells := 0, slots := 0, locals := 0 } : Room) s m #[(.ref a1), (.int (1 : Int32)), (.int (1 : Int32)), (.int p4)] below meth c s₁ [] 0 0 := Stand.of_body Bd
  have e0 : s₁.heap = h0 := by rw [← hh, Bd.state]; rfl
  have N0 := Fr.nil n0
  obtain ⟨F0, hF0⟩ : ∃ F : JFrame, F = entryFrame m #[(.ref a1), (.int (1 : Int32)), (.int (1 : Int32)), (.int p4)] 6 := ⟨_, rfl⟩
  have pre0 : ∀ t, Steps p.tables e below (s₁.setTop F0) t → Steps p.tables e below (s₁.setTop (entryFrame m #[(.ref a1), (.int (1 : Int32)), (.int (1 : Int32)), (.int p4)] 6)) t := fun t k => hF0 ▸ k
  have go0 : Go p e below s₁ F0 s₁ (mkF m 0 #[vr a1, vi (1 : Int32), vi (1 : Int32), vi p4, .unset, .unset] []) := fun t k => castTop (hF0.trans (ef_2_1_1 m a1 p4)) k
  have go1 : Go p e below s₁ F0 s₁ (mkF m 6 #[vr a1, vi (1 : Int32), vi (1 : Int32), vi p4, .unset, .unset] [(.int (1 : Int32))]) := by
    intro t kt
    refine go0 t ?_
    refine o_iloadN X0 hx (hb hby d2_0) rfl ?_
    refine o_iloadN X0 hx (hb hby d2_1) rfl ?_
    refine o_icmpNo X0 hx (hb hby d2_2) (flt (by decide : ¬ ((1 : Int32) < (1 : Int32)))).1 ?_
    refine o_iconst X0 hx (hb hby d2_5) (v := 1) rfl ?_
    exact kt
  obtain ⟨fs, hr, hrun, hended, hW, hsame⟩ := X0.leave (v := some (.int (1 : Int32))) (fun h => by rw [Bd.returns] at h; cases h)
  refine ⟨_, _, pre0 _ (go1 _ ?_), hrun, hended, _, _, rfl, ?_, ⟨_, rfl⟩, hW, hsame.mono (by decide) (by decide)⟩
  · skip
    exact retN X0 hx (t := .boolean) Bd.returns (by simp) (hb hby d2_6) hr
  · show Q2_1_1 Z a1 p4 h0 n0 _ s₁.heap _
    rw [e0]
    exact ⟨rfl, N0, rfl⟩

theorem pn_2_1_2 : plainName "com/example/glottis/glottis/audio/AudioBytesPinLaw" = true := by first | (simp [plainName, overriddenIn]; done) | decide +kernel
theorem ef_2_1_2 (m : MethodId) (x0 : Addr) (x3 : Int32) : entryFrame m #[(.ref x0), (.int (2 : Int32)), (.int (1 : Int32)), (.int x3)] 6 = mkF m 0 #[vr x0, vi (2 : Int32), vi (1 : Int32), vi x3, .unset, .unset] [] := by first | (simp [entryFrame, mkF, argsToLocals, Value.category]; done) | rfl
def Q2_1_2 (Z : State) (a1 : Addr) (p4 : Int32) (h0 : Heap) (n0 : Nat) (v : Option Value) (h : Heap) (L : List Loc) : Prop := v = some (.int (1 : Int32)) ∧ Fr n0 L ∧ h = h0
set_option maxRecDepth 65536 in
set_option maxHeartbeats 40000000 in
theorem rm2_1_2 (l : Launch) (Z : State) (a0 : Array Value) (hw : ∀ d ∈ tables_1, d.before a0 Z = true) (ws : List Jvm.Cond) (a1 : Addr) (p4 : Int32) (h0 : Heap) (n0 : Nat) (Z0 : n0 ≤ h0.size) :
    MetFree l y_2 (head1 (Jvm.Cond.code y_2 method_3_code 6 (some .boolean) :: ws) ({ frames := 0, cells := 0, slots := 0, locals := 0 } : Room)) (fun a U => a = #[(.ref a1), (.int (2 : Int32)), (.int (1 : Int32)), (.int p4)] ∧ Z.Warmed39 U.vm ∧ U.heap = h0) (fun _ _ _ _ _ => True) (fun _ U o U' => ∃ v L, o = .returned v ∧ Q2_1_2 Z a1 p4 h0 n0 v U'.heap L ∧ FrameEnd U o U' L ({ frames := 0, cells := 0, slots := 0, locals := 0 } : Room).cells ({ frames := 0, cells := 0, slots := 0, locals := 0 } : Room).slots) := by
  refine MetFree.of_bodySF (plainFor_of_name pn_2_1_2) hisR ?_
  intro p e s m args below meth c s₁ Bd hml0 hP hK
  obtain ⟨rfl, hZ, hh⟩ := hP
  have hx := Bd.exec
  have hby := Bd.bytes
  have hml : c.maxLocals = 6 := hml0
  have hown : s.vm.findClass "com/example/glottis/glottis/audio/AudioBytesPinLaw" = some m.cls := findClass_of_methodNamed Bd.named
  have hnm := (name_of_methodNamed Bd.named Bd.method).1
  have X0 : Stand p l e ({ frames := 0, cells := 0, slots := 0, locals := 0 } : Room) s m #[(.ref a1), (.int (2 : Int32)), (.int (1 : Int32)), (.int p4)] below meth c s₁ [] 0 0 := Stand.of_body Bd
  have e0 : s₁.heap = h0 := by rw [← hh, Bd.state]; rfl
  have N0 := Fr.nil n0
  obtain ⟨F0, hF0⟩ : ∃ F : JFrame, F = entryFrame m #[(.ref a1), (.int (2 : Int32)), (.int (1 : Int32)), (.int p4)] 6 := ⟨_, rfl⟩
  have pre0 : ∀ t, Steps p.tables e below (s₁.setTop F0) t → Steps p.tables e below (s₁.setTop (entryFrame m #[(.ref a1), (.int (2 : Int32)), (.int (1 : Int32)), (.int p4)] 6)) t := fun t k => hF0 ▸ k
  have go0 : Go p e below s₁ F0 s₁ (mkF m 0 #[vr a1, vi (2 : Int32), vi (1 : Int32), vi p4, .unset, .unset] []) := fun t k => castTop (hF0.trans (ef_2_1_2 m a1 p4)) k
  have go1 : Go p e below s₁ F0 s₁ (mkF m 6 #[vr a1, vi (2 : Int32), vi (1 : Int32), vi p4, .unset, .unset] [(.int (1 : Int32))]) := by
    intro t kt
    refine go0 t ?_
    refine o_iloadN X0 hx (hb hby d2_0) rfl ?_
    refine o_iloadN X0 hx (hb hby d2_1) rfl ?_
    refine o_icmpNo X0 hx (hb hby d2_2) (flt (by decide : ¬ ((2 : Int32) < (1 : Int32)))).1 ?_
    refine o_iconst X0 hx (hb hby d2_5) (v := 1) rfl ?_
    exact kt
  obtain ⟨fs, hr, hrun, hended, hW, hsame⟩ := X0.leave (v := some (.int (1 : Int32))) (fun h => by rw [Bd.returns] at h; cases h)
  refine ⟨_, _, pre0 _ (go1 _ ?_), hrun, hended, _, _, rfl, ?_, ⟨_, rfl⟩, hW, hsame.mono (by decide) (by decide)⟩
  · skip
    exact retN X0 hx (t := .boolean) Bd.returns (by simp) (hb hby d2_6) hr
  · show Q2_1_2 Z a1 p4 h0 n0 _ s₁.heap _
    rw [e0]
    exact ⟨rfl, N0, rfl⟩

theorem pn_2_2_0 : plainName "com/example/glottis/glottis/audio/AudioBytesPinLaw" = true := by first | (simp [plainName, overriddenIn]; done) | decide +kernel
theorem ef_2_2_0 (m : MethodId) (x0 : Addr) (x3 : Int32) : entryFrame m #[(.ref x0), (.int (0 : Int32)), (.int (2 : Int32)), (.int x3)] 6 = mkF m 0 #[vr x0, vi (0 : Int32), vi (2 : Int32), vi x3, .unset, .unset] [] := by first | (simp [entryFrame, mkF, argsToLocals, Value.category]; done) | rfl
def Q2_2_0 (Z : State) (a1 : Addr) (p4 : Int32) (k1 : ClassId) (w0 : Int32) (w1 : Int32) (w2 : Int32) (w3 : Int32) (h0 : Heap) (n0 : Nat) (v : Option Value) (h : Heap) (L : List Loc) : Prop := v = some (.int (1 : Int32)) ∧ Fr n0 L ∧ h = h0
set_option maxRecDepth 65536 in
set_option maxHeartbeats 40000000 in
theorem rm2_2_0 (l : Launch) (Z : State) (a0 : Array Value) (hw : ∀ d ∈ tables_1, d.before a0 Z = true) (ws : List Jvm.Cond) (a1 : Addr) (p4 : Int32) (k1 : ClassId) (w0 : Int32) (w1 : Int32) (w2 : Int32) (w3 : Int32) (h0 : Heap) (n0 : Nat) (Z0 : n0 ≤ h0.size) (V0 : Arv Z h0 a1 k1 .byte (4 : Int32) [(.int w0), (.int w1), (.int w2), (.int w3)] (.int (0 : Int32))) (hv : (((w1 &&& (255 : Int32)) * (256 : Int32)) + (w0 &&& (255 : Int32))) = (p4 &&& (65535 : Int32))) :
    MetFree l y_2 (head1 (Jvm.Cond.code y_2 method_3_code 6 (some .boolean) :: ws) ({ frames := 0, cells := 0, slots := 0, locals := 0 } : Room)) (fun a U => a = #[(.ref a1), (.int (0 : Int32)), (.int (2 : Int32)), (.int p4)] ∧ Z.Warmed39 U.vm ∧ U.heap = h0) (fun _ _ _ _ _ => True) (fun _ U o U' => ∃ v L, o = .returned v ∧ Q2_2_0 Z a1 p4 k1 w0 w1 w2 w3 h0 n0 v U'.heap L ∧ FrameEnd U o U' L ({ frames := 0, cells := 0, slots := 0, locals := 0 } : Room).cells ({ frames := 0, cells := 0, slots := 0, locals := 0 } : Room).slots) := by
  refine MetFree.of_bodySF (plainFor_of_name pn_2_2_0) hisR ?_
  intro p e s m args below meth c s₁ Bd hml0 hP hK
  obtain ⟨rfl, hZ, hh⟩ := hP
  have hx := Bd.exec
  have hby := Bd.bytes
  have hml : c.maxLocals = 6 := hml0
  have hown : s.vm.findClass "com/example/glottis/glottis/audio/AudioBytesPinLaw" = some m.cls := findClass_of_methodNamed Bd.named
  have hnm := (name_of_methodNamed Bd.named Bd.method).1
  have X0 : Stand p l e ({ frames := 0, cells := 0, slots := 0, locals := 0 } : Room) s m #[(.ref a1), (.int (0 : Int32)), (.int (2 : Int32)), (.int p4)] below meth c s₁ [] 0 0 := Stand.of_body Bd
  have e0 : s₁.heap = h0 := by rw [← hh, Bd.state]; rfl
  have N0 := Fr.nil n0
  obtain ⟨F0, hF0⟩ : ∃ F : JFrame, F = entryFrame m #[(.ref a1), (.int (0 : Int32)), (.int (2 : Int32)), (.int p4)] 6 := ⟨_, rfl⟩
  have pre0 : ∀ t, Steps p.tables e below (s₁.setTop F0) t → Steps p.tables e below (s₁.setTop (entryFrame m #[(.ref a1), (.int (0 : Int32)), (.int (2 : Int32)), (.int p4)] 6)) t := fun t k => hF0 ▸ k
  have go0 : Go p e below s₁ F0 s₁ (mkF m 0 #[vr a1, vi (0 : Int32), vi (2 : Int32), vi p4, .unset, .unset] []) := fun t k => castTop (hF0.trans (ef_2_2_0 m a1 p4)) k
  have go1 : Go p e below s₁ F0 s₁ (mkF m 11 #[vr a1, vi (0 : Int32), vi (2 : Int32), vi p4, .unset, .unset] [(.int (0 : Int32)), (.ref a1)]) := by
    intro t kt
    refine go0 t ?_
    refine o_iloadN X0 hx (hb hby d2_0) rfl ?_
    refine o_iloadN X0 hx (hb hby d2_1) rfl ?_
    refine o_icmpYes X0 hx (hb hby d2_2) (pc' := 7) rfl (by decide) (tlt (by decide : (0 : Int32) < (2 : Int32))).1 ?_
    refine o_aloadN X0 hx (hb hby d2_7) rfl rfl ?_
    refine o_iconst X0 hx (hb hby d2_8) (v := 2) rfl ?_
    refine o_iloadN X0 hx (hb hby d2_9) rfl ?_
    refine o_imulE X0 hx (hb hby d2_10) (v := 0) rfl ?_
    exact kt
  obtain ⟨cl2, Ar2, -, Sz2, Nn2, Hs2, -⟩ := id V0
  have hin2 : ¬ ((0 : Int32) < 0 ∨ cl2.slots.size ≤ ((0 : Int32)).toNatClampNeg) := inb_of Sz2 ⟨by decide, by decide⟩
  have hat2 : cl2.slots[((0 : Int32)).toNatClampNeg]? = some (.int w0) := Hs2.at hin2 rfl
  have go3 : Go p e below s₁ F0 s₁ (mkF m 24 #[vr a1, vi (0 : Int32), vi (2 : Int32), vi p4, vi (w0 &&& (255 : Int32)), .unset] [(.int (1 : Int32)), (.ref a1)]) := by
    intro t kt
    refine go1 t ?_
    refine o_baload X0 hx hZ e0 Ar2 hin2 hat2 (hb hby d2_11) ?_
    refine o_sipush X0 hx (hb hby d2_12) (v := 255) rfl ?_
    refine o_iand X0 hx (hb hby d2_15) ?_
    refine o_istore X0 hx (hb hby d2_16) (L' := #[vr a1, vi (0 : Int32), vi (2 : Int32), vi p4, vi (w0 &&& (255 : Int32)), .unset]) rfl ?_
    refine o_aloadN X0 hx (hb hby d2_18) rfl rfl ?_
    refine o_iconst X0 hx (hb hby d2_19) (v := 2) rfl ?_
    refine o_iloadN X0 hx (hb hby d2_20) rfl ?_
    refine o_imulE X0 hx (hb hby d2_21) (v := 0) rfl ?_
    refine o_iconst X0 hx (hb hby d2_22) (v := 1) rfl ?_
    refine o_iaddE X0 hx (hb hby d2_23) (v := 1) rfl ?_
    exact kt
  obtain ⟨cl4, Ar4, -, Sz4, Nn4, Hs4, -⟩ := id V0
  have hin4 : ¬ ((1 : Int32) < 0 ∨ cl4.slots.size ≤ ((1 : Int32)).toNatClampNeg) := inb_of Sz4 ⟨by decide, by decide⟩
  have hat4 : cl4.slots[((1 : Int32)).toNatClampNeg]? = some (.int w1) := Hs4.at hin4 rfl
  have go5 : Go p e below s₁ F0 s₁ (mkF m 52 #[vr a1, vi (0 : Int32), vi (2 : Int32), vi p4, vi (w0 &&& (255 : Int32)), vi (w1 &&& (255 : Int32))] [(.int (1 : Int32))]) := by
    intro t kt
    refine go3 t ?_
    refine o_baload X0 hx hZ e0 Ar4 hin4 hat4 (hb hby d2_24) ?_
    refine o_sipush X0 hx (hb hby d2_25) (v := 255) rfl ?_
    refine o_iand X0 hx (hb hby d2_28) ?_
    refine o_istore X0 hx (hb hby d2_29) (L' := #[vr a1, vi (0 : Int32), vi (2 : Int32), vi p4, vi (w0 &&& (255 : Int32)), vi (w1 &&& (255 : Int32))]) rfl ?_
    refine o_iload X0 hx (hb hby d2_31) rfl ?_
    refine o_sipush X0 hx (hb hby d2_33) (v := 256) rfl ?_
    refine o_imul X0 hx (hb hby d2_36) ?_
    refine o_iload X0 hx (hb hby d2_37) rfl ?_
    refine o_iadd X0 hx (hb hby d2_39) ?_
    refine o_iloadN X0 hx (hb hby d2_40) rfl ?_
    refine o_ldc X0 hx hown (mvT hZ (own_w hw 13 rfl)) (hb hby d2_41) ?_
    refine o_iand X0 hx (hb hby d2_43) ?_
    refine o_icmpNo X0 hx (hb hby d2_44) (teq hv).2 ?_
    refine o_iconst X0 hx (hb hby d2_47) (v := 1) rfl ?_
    refine o_goto X0 hx (hb hby d2_48) (pc' := 52) rfl (by decide) ?_
    exact kt
  obtain ⟨fs, hr, hrun, hended, hW, hsame⟩ := X0.leave (v := some (.int (1 : Int32))) (fun h => by rw [Bd.returns] at h; cases h)
  refine ⟨_, _, pre0 _ (go5 _ ?_), hrun, hended, _, _, rfl, ?_, ⟨_, rfl⟩, hW, hsame.mono (by decide) (by decide)⟩
  · skip
    exact retN X0 hx (t := .boolean) Bd.returns (by simp) (hb hby d2_52) hr
  · show Q2_2_0 Z a1 p4 k1 w0 w1 w2 w3 h0 n0 _ s₁.heap _
    rw [e0]
    exact ⟨rfl, N0, rfl⟩

theorem pn_2_2_1 : plainName "com/example/glottis/glottis/audio/AudioBytesPinLaw" = true := by first | (simp [plainName, overriddenIn]; done) | decide +kernel
theorem ef_2_2_1 (m : MethodId) (x0 : Addr) (x3 : Int32) : entryFrame m #[(.ref x0), (.int (1 : Int32)), (.int (2 : Int32)), (.int x3)] 6 = mkF m 0 #[vr x0, vi (1 : Int32), vi (2 : Int32), vi x3, .unset, .unset] [] := by first | (simp [entryFrame, mkF, argsToLocals, Value.category]; done) | rfl
def Q2_2_1 (Z : State) (a1 : Addr) (p4 : Int32) (k1 : ClassId) (w0 : Int32) (w1 : Int32) (w2 : Int32) (w3 : Int32) (h0 : Heap) (n0 : Nat) (v : Option Value) (h : Heap) (L : List Loc) : Prop := v = some (.int (1 : Int32)) ∧ Fr n0 L ∧ h = h0
set_option maxRecDepth 65536 in
set_option maxHeartbeats 40000000 in
theorem rm2_2_1 (l : Launch) (Z : State) (a0 : Array Value) (hw : ∀ d ∈ tables_1, d.before a0 Z = true) (ws : List Jvm.Cond) (a1 : Addr) (p4 : Int32) (k1 : ClassId) (w0 : Int32) (w1 : Int32) (w2 : Int32) (w3 : Int32) (h0 : Heap) (n0 : Nat) (Z0 : n0 ≤ h0.size) (V0 : Arv Z h0 a1 k1 .byte (4 : Int32) [(.int w0), (.int w1), (.int w2), (.int w3)] (.int (0 : Int32))) (hv : (((w3 &&& (255 : Int32)) * (256 : Int32)) + (w2 &&& (255 : Int32))) = (p4 &&& (65535 : Int32))) :
    MetFree l y_2 (head1 (Jvm.Cond.code y_2 method_3_code 6 (some .boolean) :: ws) ({ frames := 0, cells := 0, slots := 0, locals := 0 } : Room)) (fun a U => a = #[(.ref a1), (.int (1 : Int32)), (.int (2 : Int32)), (.int p4)] ∧ Z.Warmed39 U.vm ∧ U.heap = h0) (fun _ _ _ _ _ => True) (fun _ U o U' => ∃ v L, o = .returned v ∧ Q2_2_1 Z a1 p4 k1 w0 w1 w2 w3 h0 n0 v U'.heap L ∧ FrameEnd U o U' L ({ frames := 0, cells := 0, slots := 0, locals := 0 } : Room).cells ({ frames := 0, cells := 0, slots := 0, locals := 0 } : Room).slots) := by
  refine MetFree.of_bodySF (plainFor_of_name pn_2_2_1) hisR ?_
  intro p e s m args below meth c s₁ Bd hml0 hP hK
  obtain ⟨rfl, hZ, hh⟩ := hP
  have hx := Bd.exec
  have hby := Bd.bytes
  have hml : c.maxLocals = 6 := hml0
  have hown : s.vm.findClass "com/example/glottis/glottis/audio/AudioBytesPinLaw" = some m.cls := findClass_of_methodNamed Bd.named
  have hnm := (name_of_methodNamed Bd.named Bd.method).1
  have X0 : Stand p l e ({ frames := 0, cells := 0, slots := 0, locals := 0 } : Room) s m #[(.ref a1), (.int (1 : Int32)), (.int (2 : Int32)), (.int p4)] below meth c s₁ [] 0 0 := Stand.of_body Bd
  have e0 : s₁.heap = h0 := by rw [← hh, Bd.state]; rfl
  have N0 := Fr.nil n0
  obtain ⟨F0, hF0⟩ : ∃ F : JFrame, F = entryFrame m #[(.ref a1), (.int (1 : Int32)), (.int (2 : Int32)), (.int p4)] 6 := ⟨_, rfl⟩
  have pre0 : ∀ t, Steps p.tables e below (s₁.setTop F0) t → Steps p.tables e below (s₁.setTop (entryFrame m #[(.ref a1), (.int (1 : Int32)), (.int (2 : Int32)), (.int p4)] 6)) t := fun t k => hF0 ▸ k
  have go0 : Go p e below s₁ F0 s₁ (mkF m 0 #[vr a1, vi (1 : Int32), vi (2 : Int32), vi p4, .unset, .unset] []) := fun t k => castTop (hF0.trans (ef_2_2_1 m a1 p4)) k
  have go1 : Go p e below s₁ F0 s₁ (mkF m 11 #[vr a1, vi (1 : Int32), vi (2 : Int32), vi p4, .unset, .unset] [(.int (2 : Int32)), (.ref a1)]) := by
    intro t kt
    refine go0 t ?_
    refine o_iloadN X0 hx (hb hby d2_0) rfl ?_
    refine o_iloadN X0 hx (hb hby d2_1) rfl ?_
    refine o_icmpYes X0 hx (hb hby d2_2) (pc' := 7) rfl (by decide) (tlt (by decide : (1 : Int32) < (2 : Int32))).1 ?_
    refine o_aloadN X0 hx (hb hby d2_7) rfl rfl ?_
    refine o_iconst X0 hx (hb hby d2_8) (v := 2) rfl ?_
    refine o_iloadN X0 hx (hb hby d2_9) rfl ?_
    refine o_imulE X0 hx (hb hby d2_10) (v := 2) rfl ?_
    exact kt
  obtain ⟨cl2, Ar2, -, Sz2, Nn2, Hs2, -⟩ := id V0
  have hin2 : ¬ ((2 : Int32) < 0 ∨ cl2.slots.size ≤ ((2 : Int32)).toNatClampNeg) := inb_of Sz2 ⟨by decide, by decide⟩
  have hat2 : cl2.slots[((2 : Int32)).toNatClampNeg]? = some (.int w2) := Hs2.at hin2 rfl
  have go3 : Go p e below s₁ F0 s₁ (mkF m 24 #[vr a1, vi (1 : Int32), vi (2 : Int32), vi p4, vi (w2 &&& (255 : Int32)), .unset] [(.int (3 : Int32)), (.ref a1)]) := by
    intro t kt
    refine go1 t ?_
    refine o_baload X0 hx hZ e0 Ar2 hin2 hat2 (hb hby d2_11) ?_
    refine o_sipush X0 hx (hb hby d2_12) (v := 255) rfl ?_
    refine o_iand X0 hx (hb hby d2_15) ?_
    refine o_istore X0 hx (hb hby d2_16) (L' := #[vr a1, vi (1 : Int32), vi (2 : Int32), vi p4, vi (w2 &&& (255 : Int32)), .unset]) rfl ?_
    refine o_aloadN X0 hx (hb hby d2_18) rfl rfl ?_
    refine o_iconst X0 hx (hb hby d2_19) (v := 2) rfl ?_
    refine o_iloadN X0 hx (hb hby d2_20) rfl ?_
    refine o_imulE X0 hx (hb hby d2_21) (v := 2) rfl ?_
    refine o_iconst X0 hx (hb hby d2_22) (v := 1) rfl ?_
    refine o_iaddE X0 hx (hb hby d2_23) (v := 3) rfl ?_
    exact kt
  obtain ⟨cl4, Ar4, -, Sz4, Nn4, Hs4, -⟩ := id V0
  have hin4 : ¬ ((3 : Int32) < 0 ∨ cl4.slots.size ≤ ((3 : Int32)).toNatClampNeg) := inb_of Sz4 ⟨by decide, by decide⟩
  have hat4 : cl4.slots[((3 : Int32)).toNatClampNeg]? = some (.int w3) := Hs4.at hin4 rfl
  have go5 : Go p e below s₁ F0 s₁ (mkF m 52 #[vr a1, vi (1 : Int32), vi (2 : Int32), vi p4, vi (w2 &&& (255 : Int32)), vi (w3 &&& (255 : Int32))] [(.int (1 : Int32))]) := by
    intro t kt
    refine go3 t ?_
    refine o_baload X0 hx hZ e0 Ar4 hin4 hat4 (hb hby d2_24) ?_
    refine o_sipush X0 hx (hb hby d2_25) (v := 255) rfl ?_
    refine o_iand X0 hx (hb hby d2_28) ?_
    refine o_istore X0 hx (hb hby d2_29) (L' := #[vr a1, vi (1 : Int32), vi (2 : Int32), vi p4, vi (w2 &&& (255 : Int32)), vi (w3 &&& (255 : Int32))]) rfl ?_
    refine o_iload X0 hx (hb hby d2_31) rfl ?_
    refine o_sipush X0 hx (hb hby d2_33) (v := 256) rfl ?_
    refine o_imul X0 hx (hb hby d2_36) ?_
    refine o_iload X0 hx (hb hby d2_37) rfl ?_
    refine o_iadd X0 hx (hb hby d2_39) ?_
    refine o_iloadN X0 hx (hb hby d2_40) rfl ?_
    refine o_ldc X0 hx hown (mvT hZ (own_w hw 13 rfl)) (hb hby d2_41) ?_
    refine o_iand X0 hx (hb hby d2_43) ?_
    refine o_icmpNo X0 hx (hb hby d2_44) (teq hv).2 ?_
    refine o_iconst X0 hx (hb hby d2_47) (v := 1) rfl ?_
    refine o_goto X0 hx (hb hby d2_48) (pc' := 52) rfl (by decide) ?_
    exact kt
  obtain ⟨fs, hr, hrun, hended, hW, hsame⟩ := X0.leave (v := some (.int (1 : Int32))) (fun h => by rw [Bd.returns] at h; cases h)
  refine ⟨_, _, pre0 _ (go5 _ ?_), hrun, hended, _, _, rfl, ?_, ⟨_, rfl⟩, hW, hsame.mono (by decide) (by decide)⟩
  · skip
    exact retN X0 hx (t := .boolean) Bd.returns (by simp) (hb hby d2_52) hr
  · show Q2_2_1 Z a1 p4 k1 w0 w1 w2 w3 h0 n0 _ s₁.heap _
    rw [e0]
    exact ⟨rfl, N0, rfl⟩

theorem pn_2_2_2 : plainName "com/example/glottis/glottis/audio/AudioBytesPinLaw" = true := by first | (simp [plainName, overriddenIn]; done) | decide +kernel
theorem ef_2_2_2 (m : MethodId) (x0 : Addr) (x3 : Int32) : entryFrame m #[(.ref x0), (.int (2 : Int32)), (.int (2 : Int32)), (.int x3)] 6 = mkF m 0 #[vr x0, vi (2 : Int32), vi (2 : Int32), vi x3, .unset, .unset] [] := by first | (simp [entryFrame, mkF, argsToLocals, Value.category]; done) | rfl
def Q2_2_2 (Z : State) (a1 : Addr) (p4 : Int32) (h0 : Heap) (n0 : Nat) (v : Option Value) (h : Heap) (L : List Loc) : Prop := v = some (.int (1 : Int32)) ∧ Fr n0 L ∧ h = h0
set_option maxRecDepth 65536 in
set_option maxHeartbeats 40000000 in
theorem rm2_2_2 (l : Launch) (Z : State) (a0 : Array Value) (hw : ∀ d ∈ tables_1, d.before a0 Z = true) (ws : List Jvm.Cond) (a1 : Addr) (p4 : Int32) (h0 : Heap) (n0 : Nat) (Z0 : n0 ≤ h0.size) :
    MetFree l y_2 (head1 (Jvm.Cond.code y_2 method_3_code 6 (some .boolean) :: ws) ({ frames := 0, cells := 0, slots := 0, locals := 0 } : Room)) (fun a U => a = #[(.ref a1), (.int (2 : Int32)), (.int (2 : Int32)), (.int p4)] ∧ Z.Warmed39 U.vm ∧ U.heap = h0) (fun _ _ _ _ _ => True) (fun _ U o U' => ∃ v L, o = .returned v ∧ Q2_2_2 Z a1 p4 h0 n0 v U'.heap L ∧ FrameEnd U o U' L ({ frames := 0, cells := 0, slots := 0, locals := 0 } : Room).cells ({ frames := 0, cells := 0, slots := 0, locals := 0 } : Room).slots) := by
  refine MetFree.of_bodySF (plainFor_of_name pn_2_2_2) hisR ?_
  intro p e s m args below meth c s₁ Bd hml0 hP hK
  obtain ⟨rfl, hZ, hh⟩ := hP
  have hx := Bd.exec
  have hby := Bd.bytes
  have hml : c.maxLocals = 6 := hml0
  have hown : s.vm.findClass "com/example/glottis/glottis/audio/AudioBytesPinLaw" = some m.cls := findClass_of_methodNamed Bd.named
  have hnm := (name_of_methodNamed Bd.named Bd.method).1
  have X0 : Stand p l e ({ frames := 0, cells := 0, slots := 0, locals := 0 } : Room) s m #[(.ref a1), (.int (2 : Int32)), (.int (2 : Int32)), (.int p4)] below meth c s₁ [] 0 0 := Stand.of_body Bd
  have e0 : s₁.heap = h0 := by rw [← hh, Bd.state]; rfl
  have N0 := Fr.nil n0
  obtain ⟨F0, hF0⟩ : ∃ F : JFrame, F = entryFrame m #[(.ref a1), (.int (2 : Int32)), (.int (2 : Int32)), (.int p4)] 6 := ⟨_, rfl⟩
  have pre0 : ∀ t, Steps p.tables e below (s₁.setTop F0) t → Steps p.tables e below (s₁.setTop (entryFrame m #[(.ref a1), (.int (2 : Int32)), (.int (2 : Int32)), (.int p4)] 6)) t := fun t k => hF0 ▸ k
  have go0 : Go p e below s₁ F0 s₁ (mkF m 0 #[vr a1, vi (2 : Int32), vi (2 : Int32), vi p4, .unset, .unset] []) := fun t k => castTop (hF0.trans (ef_2_2_2 m a1 p4)) k
  have go1 : Go p e below s₁ F0 s₁ (mkF m 6 #[vr a1, vi (2 : Int32), vi (2 : Int32), vi p4, .unset, .unset] [(.int (1 : Int32))]) := by
    intro t kt
    refine go0 t ?_
    refine o_iloadN X0 hx (hb hby d2_0) rfl ?_
    refine o_iloadN X0 hx (hb hby d2_1) rfl ?_
    refine o_icmpNo X0 hx (hb hby d2_2) (flt (by decide : ¬ ((2 : Int32) < (2 : Int32)))).1 ?_
    refine o_iconst X0 hx (hb hby d2_5) (v := 1) rfl ?_
    exact kt
  obtain ⟨fs, hr, hrun, hended, hW, hsame⟩ := X0.leave (v := some (.int (1 : Int32))) (fun h => by rw [Bd.returns] at h; cases h)
  refine ⟨_, _, pre0 _ (go1 _ ?_), hrun, hended, _, _, rfl, ?_, ⟨_, rfl⟩, hW, hsame.mono (by decide) (by decide)⟩
  · skip
    exact retN X0 hx (t := .boolean) Bd.returns (by simp) (hb hby d2_6) hr
  · show Q2_2_2 Z a1 p4 h0 n0 _ s₁.heap _
    rw [e0]
    exact ⟨rfl, N0, rfl⟩

theorem pn_2_3_0 : plainName "com/example/glottis/glottis/audio/AudioBytesPinLaw" = true := by first | (simp [plainName, overriddenIn]; done) | decide +kernel
theorem ef_2_3_0 (m : MethodId) (x0 : Addr) (x3 : Int32) : entryFrame m #[(.ref x0), (.int (0 : Int32)), (.int (3 : Int32)), (.int x3)] 6 = mkF m 0 #[vr x0, vi (0 : Int32), vi (3 : Int32), vi x3, .unset, .unset] [] := by first | (simp [entryFrame, mkF, argsToLocals, Value.category]; done) | rfl
def Q2_3_0 (Z : State) (a1 : Addr) (p4 : Int32) (k1 : ClassId) (w0 : Int32) (w1 : Int32) (w2 : Int32) (w3 : Int32) (w4 : Int32) (w5 : Int32) (h0 : Heap) (n0 : Nat) (v : Option Value) (h : Heap) (L : List Loc) : Prop := v = some (.int (1 : Int32)) ∧ Fr n0 L ∧ h = h0
set_option maxRecDepth 65536 in
set_option maxHeartbeats 40000000 in
theorem rm2_3_0 (l : Launch) (Z : State) (a0 : Array Value) (hw : ∀ d ∈ tables_1, d.before a0 Z = true) (ws : List Jvm.Cond) (a1 : Addr) (p4 : Int32) (k1 : ClassId) (w0 : Int32) (w1 : Int32) (w2 : Int32) (w3 : Int32) (w4 : Int32) (w5 : Int32) (h0 : Heap) (n0 : Nat) (Z0 : n0 ≤ h0.size) (V0 : Arv Z h0 a1 k1 .byte (6 : Int32) [(.int w0), (.int w1), (.int w2), (.int w3), (.int w4), (.int w5)] (.int (0 : Int32))) (hv : (((w1 &&& (255 : Int32)) * (256 : Int32)) + (w0 &&& (255 : Int32))) = (p4 &&& (65535 : Int32))) :
    MetFree l y_2 (head1 (Jvm.Cond.code y_2 method_3_code 6 (some .boolean) :: ws) ({ frames := 0, cells := 0, slots := 0, locals := 0 } : Room)) (fun a U => a = #[(.ref a1), (.int (0 : Int32)), (.int (3 : Int32)), (.int p4)] ∧ Z.Warmed39 U.vm ∧ U.heap = h0) (fun _ _ _ _ _ => True) (fun _ U o U' => ∃ v L, o = .returned v ∧ Q2_3_0 Z a1 p4 k1 w0 w1 w2 w3 w4 w5 h0 n0 v U'.heap L ∧ FrameEnd U o U' L ({ frames := 0, cells := 0, slots := 0, locals := 0 } : Room).cells ({ frames := 0, cells := 0, slots := 0, locals := 0 } : Room).slots) := by
  refine MetFree.of_bodySF (plainFor_of_name pn_2_3_0) hisR ?_
  intro p e s m args below meth c s₁ Bd hml0 hP hK
  obtain ⟨rfl, hZ, hh⟩ := hP
  have hx := Bd.exec
  have hby := Bd.bytes
  have hml : c.maxLocals = 6 := hml0
  have hown : s.vm.findClass "com/example/glottis/glottis/audio/AudioBytesPinLaw" = some m.cls := findClass_of_methodNamed Bd.named
  have hnm := (name_of_methodNamed Bd.named Bd.method).1
  have X0 : Stand p l e ({ frames := 0, cells := 0, slots := 0, locals := 0 } : Room) s m #[(.ref a1), (.int (0 : Int32)), (.int (3 : Int32)), (.int p4)] below meth c s₁ [] 0 0 := Stand.of_body Bd
  have e0 : s₁.heap = h0 := by rw [← hh, Bd.state]; rfl
  have N0 := Fr.nil n0
  obtain ⟨F0, hF0⟩ : ∃ F : JFrame, F = entryFrame m #[(.ref a1), (.int (0 : Int32)), (.int (3 : Int32)), (.int p4)] 6 := ⟨_, rfl⟩
  have pre0 : ∀ t, Steps p.tables e below (s₁.setTop F0) t → Steps p.tables e below (s₁.setTop (entryFrame m #[(.ref a1), (.int (0 : Int32)), (.int (3 : Int32)), (.int p4)] 6)) t := fun t k => hF0 ▸ k
  have go0 : Go p e below s₁ F0 s₁ (mkF m 0 #[vr a1, vi (0 : Int32), vi (3 : Int32), vi p4, .unset, .unset] []) := fun t k => castTop (hF0.trans (ef_2_3_0 m a1 p4)) k
  have go1 : Go p e below s₁ F0 s₁ (mkF m 11 #[vr a1, vi (0 : Int32), vi (3 : Int32), vi p4, .unset, .unset] [(.int (0 : Int32)), (.ref a1)]) := by
    intro t kt
    refine go0 t ?_
    refine o_iloadN X0 hx (hb hby d2_0) rfl ?_
    refine o_iloadN X0 hx (hb hby d2_1) rfl ?_
    refine o_icmpYes X0 hx (hb hby d2_2) (pc' := 7) rfl (by decide) (tlt (by decide : (0 : Int32) < (3 : Int32))).1 ?_
    refine o_aloadN X0 hx (hb hby d2_7) rfl rfl ?_
    refine o_iconst X0 hx (hb hby d2_8) (v := 2) rfl ?_
    refine o_iloadN X0 hx (hb hby d2_9) rfl ?_
    refine o_imulE X0 hx (hb hby d2_10) (v := 0) rfl ?_
    exact kt
  obtain ⟨cl2, Ar2, -, Sz2, Nn2, Hs2, -⟩ := id V0
  have hin2 : ¬ ((0 : Int32) < 0 ∨ cl2.slots.size ≤ ((0 : Int32)).toNatClampNeg) := inb_of Sz2 ⟨by decide, by decide⟩
  have hat2 : cl2.slots[((0 : Int32)).toNatClampNeg]? = some (.int w0) := Hs2.at hin2 rfl
  have go3 : Go p e below s₁ F0 s₁ (mkF m 24 #[vr a1, vi (0 : Int32), vi (3 : Int32), vi p4, vi (w0 &&& (255 : Int32)), .unset] [(.int (1 : Int32)), (.ref a1)]) := by
    intro t kt
    refine go1 t ?_
    refine o_baload X0 hx hZ e0 Ar2 hin2 hat2 (hb hby d2_11) ?_
    refine o_sipush X0 hx (hb hby d2_12) (v := 255) rfl ?_
    refine o_iand X0 hx (hb hby d2_15) ?_
    refine o_istore X0 hx (hb hby d2_16) (L' := #[vr a1, vi (0 : Int32), vi (3 : Int32), vi p4, vi (w0 &&& (255 : Int32)), .unset]) rfl ?_
    refine o_aloadN X0 hx (hb hby d2_18) rfl rfl ?_
    refine o_iconst X0 hx (hb hby d2_19) (v := 2) rfl ?_
    refine o_iloadN X0 hx (hb hby d2_20) rfl ?_
    refine o_imulE X0 hx (hb hby d2_21) (v := 0) rfl ?_
    refine o_iconst X0 hx (hb hby d2_22) (v := 1) rfl ?_
    refine o_iaddE X0 hx (hb hby d2_23) (v := 1) rfl ?_
    exact kt
  obtain ⟨cl4, Ar4, -, Sz4, Nn4, Hs4, -⟩ := id V0
  have hin4 : ¬ ((1 : Int32) < 0 ∨ cl4.slots.size ≤ ((1 : Int32)).toNatClampNeg) := inb_of Sz4 ⟨by decide, by decide⟩
  have hat4 : cl4.slots[((1 : Int32)).toNatClampNeg]? = some (.int w1) := Hs4.at hin4 rfl
  have go5 : Go p e below s₁ F0 s₁ (mkF m 52 #[vr a1, vi (0 : Int32), vi (3 : Int32), vi p4, vi (w0 &&& (255 : Int32)), vi (w1 &&& (255 : Int32))] [(.int (1 : Int32))]) := by
    intro t kt
    refine go3 t ?_
    refine o_baload X0 hx hZ e0 Ar4 hin4 hat4 (hb hby d2_24) ?_
    refine o_sipush X0 hx (hb hby d2_25) (v := 255) rfl ?_
    refine o_iand X0 hx (hb hby d2_28) ?_
    refine o_istore X0 hx (hb hby d2_29) (L' := #[vr a1, vi (0 : Int32), vi (3 : Int32), vi p4, vi (w0 &&& (255 : Int32)), vi (w1 &&& (255 : Int32))]) rfl ?_
    refine o_iload X0 hx (hb hby d2_31) rfl ?_
    refine o_sipush X0 hx (hb hby d2_33) (v := 256) rfl ?_
    refine o_imul X0 hx (hb hby d2_36) ?_
    refine o_iload X0 hx (hb hby d2_37) rfl ?_
    refine o_iadd X0 hx (hb hby d2_39) ?_
    refine o_iloadN X0 hx (hb hby d2_40) rfl ?_
    refine o_ldc X0 hx hown (mvT hZ (own_w hw 13 rfl)) (hb hby d2_41) ?_
    refine o_iand X0 hx (hb hby d2_43) ?_
    refine o_icmpNo X0 hx (hb hby d2_44) (teq hv).2 ?_
    refine o_iconst X0 hx (hb hby d2_47) (v := 1) rfl ?_
    refine o_goto X0 hx (hb hby d2_48) (pc' := 52) rfl (by decide) ?_
    exact kt
  obtain ⟨fs, hr, hrun, hended, hW, hsame⟩ := X0.leave (v := some (.int (1 : Int32))) (fun h => by rw [Bd.returns] at h; cases h)
  refine ⟨_, _, pre0 _ (go5 _ ?_), hrun, hended, _, _, rfl, ?_, ⟨_, rfl⟩, hW, hsame.mono (by decide) (by decide)⟩
  · skip
    exact retN X0 hx (t := .boolean) Bd.returns (by simp) (hb hby d2_52) hr
  · show Q2_3_0 Z a1 p4 k1 w0 w1 w2 w3 w4 w5 h0 n0 _ s₁.heap _
    rw [e0]
    exact ⟨rfl, N0, rfl⟩

theorem pn_2_3_1 : plainName "com/example/glottis/glottis/audio/AudioBytesPinLaw" = true := by first | (simp [plainName, overriddenIn]; done) | decide +kernel
theorem ef_2_3_1 (m : MethodId) (x0 : Addr) (x3 : Int32) : entryFrame m #[(.ref x0), (.int (1 : Int32)), (.int (3 : Int32)), (.int x3)] 6 = mkF m 0 #[vr x0, vi (1 : Int32), vi (3 : Int32), vi x3, .unset, .unset] [] := by first | (simp [entryFrame, mkF, argsToLocals, Value.category]; done) | rfl
def Q2_3_1 (Z : State) (a1 : Addr) (p4 : Int32) (k1 : ClassId) (w0 : Int32) (w1 : Int32) (w2 : Int32) (w3 : Int32) (w4 : Int32) (w5 : Int32) (h0 : Heap) (n0 : Nat) (v : Option Value) (h : Heap) (L : List Loc) : Prop := v = some (.int (1 : Int32)) ∧ Fr n0 L ∧ h = h0
set_option maxRecDepth 65536 in
set_option maxHeartbeats 40000000 in
theorem rm2_3_1 (l : Launch) (Z : State) (a0 : Array Value) (hw : ∀ d ∈ tables_1, d.before a0 Z = true) (ws : List Jvm.Cond) (a1 : Addr) (p4 : Int32) (k1 : ClassId) (w0 : Int32) (w1 : Int32) (w2 : Int32) (w3 : Int32) (w4 : Int32) (w5 : Int32) (h0 : Heap) (n0 : Nat) (Z0 : n0 ≤ h0.size) (V0 : Arv Z h0 a1 k1 .byte (6 : Int32) [(.int w0), (.int w1), (.int w2), (.int w3), (.int w4), (.int w5)] (.int (0 : Int32))) (hv : (((w3 &&& (255 : Int32)) * (256 : Int32)) + (w2 &&& (255 : Int32))) = (p4 &&& (65535 : Int32))) :
    MetFree l y_2 (head1 (Jvm.Cond.code y_2 method_3_code 6 (some .boolean) :: ws) ({ frames := 0, cells := 0, slots := 0, locals := 0 } : Room)) (fun a U => a = #[(.ref a1), (.int (1 : Int32)), (.int (3 : Int32)), (.int p4)] ∧ Z.Warmed39 U.vm ∧ U.heap = h0) (fun _ _ _ _ _ => True) (fun _ U o U' => ∃ v L, o = .returned v ∧ Q2_3_1 Z a1 p4 k1 w0 w1 w2 w3 w4 w5 h0 n0 v U'.heap L ∧ FrameEnd U o U' L ({ frames := 0, cells := 0, slots := 0, locals := 0 } : Room).cells ({ frames := 0, cells := 0, slots := 0, locals := 0 } : Room).slots) := by
  refine MetFree.of_bodySF (plainFor_of_name pn_2_3_1) hisR ?_
  intro p e s m args below meth c s₁ Bd hml0 hP hK
  obtain ⟨rfl, hZ, hh⟩ := hP
  have hx := Bd.exec
  have hby := Bd.bytes
  have hml : c.maxLocals = 6 := hml0
  have hown : s.vm.findClass "com/example/glottis/glottis/audio/AudioBytesPinLaw" = some m.cls := findClass_of_methodNamed Bd.named
  have hnm := (name_of_methodNamed Bd.named Bd.method).1
  have X0 : Stand p l e ({ frames := 0, cells := 0, slots := 0, locals := 0 } : Room) s m #[(.ref a1), (.int (1 : Int32)), (.int (3 : Int32)), (.int p4)] below meth c s₁ [] 0 0 := Stand.of_body Bd
  have e0 : s₁.heap = h0 := by rw [← hh, Bd.state]; rfl
  have N0 := Fr.nil n0
  obtain ⟨F0, hF0⟩ : ∃ F : JFrame, F = entryFrame m #[(.ref a1), (.int (1 : Int32)), (.int (3 : Int32)), (.int p4)] 6 := ⟨_, rfl⟩
  have pre0 : ∀ t, Steps p.tables e below (s₁.setTop F0) t → Steps p.tables e below (s₁.setTop (entryFrame m #[(.ref a1), (.int (1 : Int32)), (.int (3 : Int32)), (.int p4)] 6)) t := fun t k => hF0 ▸ k
  have go0 : Go p e below s₁ F0 s₁ (mkF m 0 #[vr a1, vi (1 : Int32), vi (3 : Int32), vi p4, .unset, .unset] []) := fun t k => castTop (hF0.trans (ef_2_3_1 m a1 p4)) k
  have go1 : Go p e below s₁ F0 s₁ (mkF m 11 #[vr a1, vi (1 : Int32), vi (3 : Int32), vi p4, .unset, .unset] [(.int (2 : Int32)), (.ref a1)]) := by
    intro t kt
    refine go0 t ?_
    refine o_iloadN X0 hx (hb hby d2_0) rfl ?_
    refine o_iloadN X0 hx (hb hby d2_1) rfl ?_
    refine o_icmpYes X0 hx (hb hby d2_2) (pc' := 7) rfl (by decide) (tlt (by decide : (1 : Int32) < (3 : Int32))).1 ?_
    refine o_aloadN X0 hx (hb hby d2_7) rfl rfl ?_
    refine o_iconst X0 hx (hb hby d2_8) (v := 2) rfl ?_
    refine o_iloadN X0 hx (hb hby d2_9) rfl ?_
    refine o_imulE X0 hx (hb hby d2_10) (v := 2) rfl ?_
    exact kt
  obtain ⟨cl2, Ar2, -, Sz2, Nn2, Hs2, -⟩ := id V0
  have hin2 : ¬ ((2 : Int32) < 0 ∨ cl2.slots.size ≤ ((2 : Int32)).toNatClampNeg) := inb_of Sz2 ⟨by decide, by decide⟩
  have hat2 : cl2.slots[((2 : Int32)).toNatClampNeg]? = some (.int w2) := Hs2.at hin2 rfl
  have go3 : Go p e below s₁ F0 s₁ (mkF m 24 #[vr a1, vi (1 : Int32), vi (3 : Int32), vi p4, vi (w2 &&& (255 : Int32)), .unset] [(.int (3 : Int32)), (.ref a1)]) := by
    intro t kt
    refine go1 t ?_
    refine o_baload X0 hx hZ e0 Ar2 hin2 hat2 (hb hby d2_11) ?_
    refine o_sipush X0 hx (hb hby d2_12) (v := 255) rfl ?_
    refine o_iand X0 hx (hb hby d2_15) ?_
    refine o_istore X0 hx (hb hby d2_16) (L' := #[vr a1, vi (1 : Int32), vi (3 : Int32), vi p4, vi (w2 &&& (255 : Int32)), .unset]) rfl ?_
    refine o_aloadN X0 hx (hb hby d2_18) rfl rfl ?_
    refine o_iconst X0 hx (hb hby d2_19) (v := 2) rfl ?_
    refine o_iloadN X0 hx (hb hby d2_20) rfl ?_
    refine o_imulE X0 hx (hb hby d2_21) (v := 2) rfl ?_
    refine o_iconst X0 hx (hb hby d2_22) (v := 1) rfl ?_
    refine o_iaddE X0 hx (hb hby d2_23) (v := 3) rfl ?_
    exact kt
  obtain ⟨cl4, Ar4, -, Sz4, Nn4, Hs4, -⟩ := id V0
  have hin4 : ¬ ((3 : Int32) < 0 ∨ cl4.slots.size ≤ ((3 : Int32)).toNatClampNeg) := inb_of Sz4 ⟨by decide, by decide⟩
  have hat4 : cl4.slots[((3 : Int32)).toNatClampNeg]? = some (.int w3) := Hs4.at hin4 rfl
  have go5 : Go p e below s₁ F0 s₁ (mkF m 52 #[vr a1, vi (1 : Int32), vi (3 : Int32), vi p4, vi (w2 &&& (255 : Int32)), vi (w3 &&& (255 : Int32))] [(.int (1 : Int32))]) := by
    intro t kt
    refine go3 t ?_
    refine o_baload X0 hx hZ e0 Ar4 hin4 hat4 (hb hby d2_24) ?_
    refine o_sipush X0 hx (hb hby d2_25) (v := 255) rfl ?_
    refine o_iand X0 hx (hb hby d2_28) ?_
    refine o_istore X0 hx (hb hby d2_29) (L' := #[vr a1, vi (1 : Int32), vi (3 : Int32), vi p4, vi (w2 &&& (255 : Int32)), vi (w3 &&& (255 : Int32))]) rfl ?_
    refine o_iload X0 hx (hb hby d2_31) rfl ?_
    refine o_sipush X0 hx (hb hby d2_33) (v := 256) rfl ?_
    refine o_imul X0 hx (hb hby d2_36) ?_
    refine o_iload X0 hx (hb hby d2_37) rfl ?_
    refine o_iadd X0 hx (hb hby d2_39) ?_
    refine o_iloadN X0 hx (hb hby d2_40) rfl ?_
    refine o_ldc X0 hx hown (mvT hZ (own_w hw 13 rfl)) (hb hby d2_41) ?_
    refine o_iand X0 hx (hb hby d2_43) ?_
    refine o_icmpNo X0 hx (hb hby d2_44) (teq hv).2 ?_
    refine o_iconst X0 hx (hb hby d2_47) (v := 1) rfl ?_
    refine o_goto X0 hx (hb hby d2_48) (pc' := 52) rfl (by decide) ?_
    exact kt
  obtain ⟨fs, hr, hrun, hended, hW, hsame⟩ := X0.leave (v := some (.int (1 : Int32))) (fun h => by rw [Bd.returns] at h; cases h)
  refine ⟨_, _, pre0 _ (go5 _ ?_), hrun, hended, _, _, rfl, ?_, ⟨_, rfl⟩, hW, hsame.mono (by decide) (by decide)⟩
  · skip
    exact retN X0 hx (t := .boolean) Bd.returns (by simp) (hb hby d2_52) hr
  · show Q2_3_1 Z a1 p4 k1 w0 w1 w2 w3 w4 w5 h0 n0 _ s₁.heap _
    rw [e0]
    exact ⟨rfl, N0, rfl⟩

theorem pn_2_3_2 : plainName "com/example/glottis/glottis/audio/AudioBytesPinLaw" = true := by first | (simp [plainName, overriddenIn]; done) | decide +kernel
theorem ef_2_3_2 (m : MethodId) (x0 : Addr) (x3 : Int32) : entryFrame m #[(.ref x0), (.int (2 : Int32)), (.int (3 : Int32)), (.int x3)] 6 = mkF m 0 #[vr x0, vi (2 : Int32), vi (3 : Int32), vi x3, .unset, .unset] [] := by first | (simp [entryFrame, mkF, argsToLocals, Value.category]; done) | rfl
def Q2_3_2 (Z : State) (a1 : Addr) (p4 : Int32) (k1 : ClassId) (w0 : Int32) (w1 : Int32) (w2 : Int32) (w3 : Int32) (w4 : Int32) (w5 : Int32) (h0 : Heap) (n0 : Nat) (v : Option Value) (h : Heap) (L : List Loc) : Prop := v = some (.int (1 : Int32)) ∧ Fr n0 L ∧ h = h0
set_option maxRecDepth 65536 in
set_option maxHeartbeats 40000000 in
theorem rm2_3_2 (l : Launch) (Z : State) (a0 : Array Value) (hw : ∀ d ∈ tables_1, d.before a0 Z = true) (ws : List Jvm.Cond) (a1 : Addr) (p4 : Int32) (k1 : ClassId) (w0 : Int32) (w1 : Int32) (w2 : Int32) (w3 : Int32) (w4 : Int32) (w5 : Int32) (h0 : Heap) (n0 : Nat) (Z0 : n0 ≤ h0.size) (V0 : Arv Z h0 a1 k1 .byte (6 : Int32) [(.int w0), (.int w1), (.int w2), (.int w3), (.int w4), (.int w5)] (.int (0 : Int32))) (hv : (((w5 &&& (255 : Int32)) * (256 : Int32)) + (w4 &&& (255 : Int32))) = (p4 &&& (65535 : Int32))) :
    MetFree l y_2 (head1 (Jvm.Cond.code y_2 method_3_code 6 (some .boolean) :: ws) ({ frames := 0, cells := 0, slots := 0, locals := 0 } : Room)) (fun a U => a = #[(.ref a1), (.int (2 : Int32)), (.int (3 : Int32)), (.int p4)] ∧ Z.Warmed39 U.vm ∧ U.heap = h0) (fun _ _ _ _ _ => True) (fun _ U o U' => ∃ v L, o = .returned v ∧ Q2_3_2 Z a1 p4 k1 w0 w1 w2 w3 w4 w5 h0 n0 v U'.heap L ∧ FrameEnd U o U' L ({ frames := 0, cells := 0, slots := 0, locals := 0 } : Room).cells ({ frames := 0, cells := 0, slots := 0, locals := 0 } : Room).slots) := by
  refine MetFree.of_bodySF (plainFor_of_name pn_2_3_2) hisR ?_
  intro p e s m args below meth c s₁ Bd hml0 hP hK
  obtain ⟨rfl, hZ, hh⟩ := hP
  have hx := Bd.exec
  have hby := Bd.bytes
  have hml : c.maxLocals = 6 := hml0
  have hown : s.vm.findClass "com/example/glottis/glottis/audio/AudioBytesPinLaw" = some m.cls := findClass_of_methodNamed Bd.named
  have hnm := (name_of_methodNamed Bd.named Bd.method).1
  have X0 : Stand p l e ({ frames := 0, cells := 0, slots := 0, locals := 0 } : Room) s m #[(.ref a1), (.int (2 : Int32)), (.int (3 : Int32)), (.int p4)] below meth c s₁ [] 0 0 := Stand.of_body Bd
  have e0 : s₁.heap = h0 := by rw [← hh, Bd.state]; rfl
  have N0 := Fr.nil n0
  obtain ⟨F0, hF0⟩ : ∃ F : JFrame, F = entryFrame m #[(.ref a1), (.int (2 : Int32)), (.int (3 : Int32)), (.int p4)] 6 := ⟨_, rfl⟩
  have pre0 : ∀ t, Steps p.tables e below (s₁.setTop F0) t → Steps p.tables e below (s₁.setTop (entryFrame m #[(.ref a1), (.int (2 : Int32)), (.int (3 : Int32)), (.int p4)] 6)) t := fun t k => hF0 ▸ k
  have go0 : Go p e below s₁ F0 s₁ (mkF m 0 #[vr a1, vi (2 : Int32), vi (3 : Int32), vi p4, .unset, .unset] []) := fun t k => castTop (hF0.trans (ef_2_3_2 m a1 p4)) k
  have go1 : Go p e below s₁ F0 s₁ (mkF m 11 #[vr a1, vi (2 : Int32), vi (3 : Int32), vi p4, .unset, .unset] [(.int (4 : Int32)), (.ref a1)]) := by
    intro t kt
    refine go0 t ?_
    refine o_iloadN X0 hx (hb hby d2_0) rfl ?_
    refine o_iloadN X0 hx (hb hby d2_1) rfl ?_
    refine o_icmpYes X0 hx (hb hby d2_2) (pc' := 7) rfl (by decide) (tlt (by decide : (2 : Int32) < (3 : Int32))).1 ?_
    refine o_aloadN X0 hx (hb hby d2_7) rfl rfl ?_
    refine o_iconst X0 hx (hb hby d2_8) (v := 2) rfl ?_
    refine o_iloadN X0 hx (hb hby d2_9) rfl ?_
    refine o_imulE X0 hx (hb hby d2_10) (v := 4) rfl ?_
    exact kt
  obtain ⟨cl2, Ar2, -, Sz2, Nn2, Hs2, -⟩ := id V0
  have hin2 : ¬ ((4 : Int32) < 0 ∨ cl2.slots.size ≤ ((4 : Int32)).toNatClampNeg) := inb_of Sz2 ⟨by decide, by decide⟩
  have hat2 : cl2.slots[((4 : Int32)).toNatClampNeg]? = some (.int w4) := Hs2.at hin2 rfl
  have go3 : Go p e below s₁ F0 s₁ (mkF m 24 #[vr a1, vi (2 : Int32), vi (3 : Int32), vi p4, vi (w4 &&& (255 : Int32)), .unset] [(.int (5 : Int32)), (.ref a1)]) := by
    intro t kt
    refine go1 t ?_
    refine o_baload X0 hx hZ e0 Ar2 hin2 hat2 (hb hby d2_11) ?_
    refine o_sipush X0 hx (hb hby d2_12) (v := 255) rfl ?_
    refine o_iand X0 hx (hb hby d2_15) ?_
    refine o_istore X0 hx (hb hby d2_16) (L' := #[vr a1, vi (2 : Int32), vi (3 : Int32), vi p4, vi (w4 &&& (255 : Int32)), .unset]) rfl ?_
    refine o_aloadN X0 hx (hb hby d2_18) rfl rfl ?_
    refine o_iconst X0 hx (hb hby d2_19) (v := 2) rfl ?_
    refine o_iloadN X0 hx (hb hby d2_20) rfl ?_
    refine o_imulE X0 hx (hb hby d2_21) (v := 4) rfl ?_
    refine o_iconst X0 hx (hb hby d2_22) (v := 1) rfl ?_
    refine o_iaddE X0 hx (hb hby d2_23) (v := 5) rfl ?_
    exact kt
  obtain ⟨cl4, Ar4, -, Sz4, Nn4, Hs4, -⟩ := id V0
  have hin4 : ¬ ((5 : Int32) < 0 ∨ cl4.slots.size ≤ ((5 : Int32)).toNatClampNeg) := inb_of Sz4 ⟨by decide, by decide⟩
  have hat4 : cl4.slots[((5 : Int32)).toNatClampNeg]? = some (.int w5) := Hs4.at hin4 rfl
  have go5 : Go p e below s₁ F0 s₁ (mkF m 52 #[vr a1, vi (2 : Int32), vi (3 : Int32), vi p4, vi (w4 &&& (255 : Int32)), vi (w5 &&& (255 : Int32))] [(.int (1 : Int32))]) := by
    intro t kt
    refine go3 t ?_
    refine o_baload X0 hx hZ e0 Ar4 hin4 hat4 (hb hby d2_24) ?_
    refine o_sipush X0 hx (hb hby d2_25) (v := 255) rfl ?_
    refine o_iand X0 hx (hb hby d2_28) ?_
    refine o_istore X0 hx (hb hby d2_29) (L' := #[vr a1, vi (2 : Int32), vi (3 : Int32), vi p4, vi (w4 &&& (255 : Int32)), vi (w5 &&& (255 : Int32))]) rfl ?_
    refine o_iload X0 hx (hb hby d2_31) rfl ?_
    refine o_sipush X0 hx (hb hby d2_33) (v := 256) rfl ?_
    refine o_imul X0 hx (hb hby d2_36) ?_
    refine o_iload X0 hx (hb hby d2_37) rfl ?_
    refine o_iadd X0 hx (hb hby d2_39) ?_
    refine o_iloadN X0 hx (hb hby d2_40) rfl ?_
    refine o_ldc X0 hx hown (mvT hZ (own_w hw 13 rfl)) (hb hby d2_41) ?_
    refine o_iand X0 hx (hb hby d2_43) ?_
    refine o_icmpNo X0 hx (hb hby d2_44) (teq hv).2 ?_
    refine o_iconst X0 hx (hb hby d2_47) (v := 1) rfl ?_
    refine o_goto X0 hx (hb hby d2_48) (pc' := 52) rfl (by decide) ?_
    exact kt
  obtain ⟨fs, hr, hrun, hended, hW, hsame⟩ := X0.leave (v := some (.int (1 : Int32))) (fun h => by rw [Bd.returns] at h; cases h)
  refine ⟨_, _, pre0 _ (go5 _ ?_), hrun, hended, _, _, rfl, ?_, ⟨_, rfl⟩, hW, hsame.mono (by decide) (by decide)⟩
  · skip
    exact retN X0 hx (t := .boolean) Bd.returns (by simp) (hb hby d2_52) hr
  · show Q2_3_2 Z a1 p4 k1 w0 w1 w2 w3 w4 w5 h0 n0 _ s₁.heap _
    rw [e0]
    exact ⟨rfl, N0, rfl⟩


theorem own_4 (p : Int32) : (p &&& (3 : Int32)) = (0 : Int32) ∨ (p &&& (3 : Int32)) = (1 : Int32) ∨ (p &&& (3 : Int32)) = (2 : Int32) ∨ (p &&& (3 : Int32)) = (3 : Int32) := by
  have h : (p &&& (3 : Int32)).toInt = p.toInt % 4 := c_mask p 3 2 (by decide) (by decide)
  have h2 : (p &&& (3 : Int32)).toInt = 0 ∨ (p &&& (3 : Int32)).toInt = 1 ∨ (p &&& (3 : Int32)).toInt = 2 ∨ (p &&& (3 : Int32)).toInt = 3 := by omega
  rcases h2 with h2 | h2 | h2 | h2
  · exact Or.inl (Int32.toInt_inj.mp h2)
  · exact Or.inr (Or.inl (Int32.toInt_inj.mp h2))
  · exact Or.inr (Or.inr (Or.inl (Int32.toInt_inj.mp h2)))
  · exact Or.inr (Or.inr (Or.inr (Int32.toInt_inj.mp h2)))
theorem own_pair (v : Int32) : (((((v >>> ((8 : Int32) &&& 31)).toInt8.toInt32) &&& (255 : Int32)) * (256 : Int32)) + ((v.toInt8.toInt32) &&& (255 : Int32))) = (v &&& (65535 : Int32)) := by
  have a1 : (v &&& (65535 : Int32)).toInt = v.toInt % 65536 := c_mask v 65535 16 (by decide) (by decide)
  have a2 : ((v.toInt8.toInt32) &&& (255 : Int32)).toInt = (v.toInt8.toInt32).toInt % 256 := c_mask _ 255 8 (by decide) (by decide)
  have a3 := c_i2b v
  have a4 : (v >>> ((8 : Int32) &&& 31)).toInt = v.toInt / 256 := c_ishr v 8 8 (by decide)
  have a5 := c_i2b (v >>> ((8 : Int32) &&& 31))
  have a6 : (((v >>> ((8 : Int32) &&& 31)).toInt8.toInt32) &&& (255 : Int32)).toInt = ((v >>> ((8 : Int32) &&& 31)).toInt8.toInt32).toInt % 256 := c_mask _ 255 8 (by decide) (by decide)
  generalize ((v >>> ((8 : Int32) &&& 31)).toInt8.toInt32) &&& (255 : Int32) = H at *
  generalize (v.toInt8.toInt32) &&& (255 : Int32) = L at *
  have b1 := c_imul H (256 : Int32)
  rw [show (256 : Int32).toInt = 256 from rfl] at b1
  have b2 := c_iadd (H * (256 : Int32)) L
  have := (H * (256 : Int32)).toInt_lt; have := (H * (256 : Int32)).le_toInt; have := (H * (256 : Int32) + L).toInt_lt; have := (H * (256 : Int32) + L).le_toInt
  have c1 : (H * (256 : Int32)).toInt = H.toInt * 256 := by omega
  apply Int32.toInt_inj.mp
  omega

theorem pn_0 : plainName "com/example/glottis/glottis/audio/AudioBytesPinLaw" = true := by first | (simp [plainName, overriddenIn]; done) | decide +kernel
theorem pd0_0 : parseMethodDescriptor "([S)[B" = some ⟨[(.array .short)], some (.array .byte)⟩ := by decide +kernel
theorem pd0_1 : parseMethodDescriptor "([BIIS)Z" = some ⟨[(.array .byte), .int, .int, .short], some .boolean⟩ := by decide +kernel
theorem ef_0 (m : MethodId) (x0 : Int32) (x1 : Int32) (x2 : Int32) (x3 : Int32) : entryFrame m #[(.int x0), (.int x1), (.int x2), (.int x3)] maxLocals = mkF m 0 #[vi x0, vi x1, vi x2, vi x3, .unset, .unset, .unset] [] := by first | (simp [entryFrame, mkF, argsToLocals, Value.category, maxLocals]; done) | rfl
def Q0 (Z : State) (p1 : Int32) (p2 : Int32) (p3 : Int32) (p4 : Int32) (h0 : Heap) (n0 : Nat) (v : Option Value) (h : Heap) (L : List Loc) : Prop := v = some (.int (1 : Int32)) ∧ Fr n0 L
set_option maxRecDepth 65536 in
set_option maxHeartbeats 40000000 in
theorem rm0 (l : Launch) (Z : State) (a0 : Array Value) (hw : ∀ d ∈ tables_1, d.before a0 Z = true) (ws : List Jvm.Cond) (p1 : Int32) (p2 : Int32) (p3 : Int32) (p4 : Int32) (h0 : Heap) (n0 : Nat) (Z0 : n0 ≤ h0.size) :
    MetFree l x (head1 (Jvm.Cond.code x code maxLocals ret :: ws) room_1) (fun a U => a = #[(.int p1), (.int p2), (.int p3), (.int p4)] ∧ Z.Warmed39 U.vm ∧ U.heap = h0) (fun _ _ _ _ _ => True) (fun _ U o U' => ∃ v L, o = .returned v ∧ Q0 Z p1 p2 p3 p4 h0 n0 v U'.heap L ∧ FrameEnd U o U' L room_1.cells room_1.slots) := by
  refine MetFree.of_bodySF (plainFor_of_name pn_0) hisR ?_
  intro p e s m args below meth c s₁ Bd hml0 hP hK
  obtain ⟨rfl, hZ, hh⟩ := hP
  have hx := Bd.exec
  have hby := Bd.bytes
  have hml : c.maxLocals = 7 := hml0
  have hown : s.vm.findClass "com/example/glottis/glottis/audio/AudioBytesPinLaw" = some m.cls := findClass_of_methodNamed Bd.named
  have hnm := (name_of_methodNamed Bd.named Bd.method).1
  have X0 : Stand p l e room_1 s m #[(.int p1), (.int p2), (.int p3), (.int p4)] below meth c s₁ [] 0 0 := Stand.of_body Bd
  have e0 : s₁.heap = h0 := by rw [← hh, Bd.state]; rfl
  have N0 := Fr.nil n0
  obtain ⟨F0, hF0⟩ : ∃ F : JFrame, F = entryFrame m #[(.int p1), (.int p2), (.int p3), (.int p4)] maxLocals := ⟨_, rfl⟩
  have pre0 : ∀ t, Steps p.tables e below (s₁.setTop F0) t → Steps p.tables e below (s₁.setTop (entryFrame m #[(.int p1), (.int p2), (.int p3), (.int p4)] maxLocals)) t := fun t k => hF0 ▸ k
  have go0 : Go p e below s₁ F0 s₁ (mkF m 0 #[vi p1, vi p2, vi p3, vi p4, .unset, .unset, .unset] []) := fun t k => castTop (hF0.trans (ef_0 m p1 p2 p3 p4)) k
  have go1 : Go p e below s₁ F0 s₁ (mkF m 5 #[vi p1, vi p2, vi p3, vi p4, vi (p1 &&& (3 : Int32)), .unset, .unset] []) := by
    intro t kt
    refine go0 t ?_
    refine o_iloadN X0 hx (hb hby at_0) rfl ?_
    refine o_iconst X0 hx (hb hby at_1) (v := 3) rfl ?_
    refine o_iand X0 hx (hb hby at_2) ?_
    refine o_istore X0 hx (hb hby at_3) (L' := #[vi p1, vi p2, vi p3, vi p4, vi (p1 &&& (3 : Int32)), .unset, .unset]) rfl ?_
    exact kt
  have hcs2 : (p1 &&& (3 : Int32)) = (0 : Int32) ∨ (p1 &&& (3 : Int32)) = (1 : Int32) ∨ (p1 &&& (3 : Int32)) = (2 : Int32) ∨ (p1 &&& (3 : Int32)) = (3 : Int32) := own_4 _
  rcases hcs2 with hcs2 | hcs2 | hcs2 | hcs2
  · skip
    have go3 : Go p e below s₁ F0 s₁ (mkF m 5 #[vi p1, vi p2, vi p3, vi p4, vi (0 : Int32), .unset, .unset] []) := by rw [hcs2] at go1; exact go1
    have go4 : Go p e below s₁ F0 s₁ (mkF m 7 #[vi p1, vi p2, vi p3, vi p4, vi (0 : Int32), .unset, .unset] [(.int (0 : Int32))]) := by
      intro t kt
      refine go3 t ?_
      refine o_iload X0 hx (hb hby at_5) rfl ?_
      exact kt
    obtain ⟨T5, h5, k5, X5, e5, E5, A5, st5⟩ := newP X0 hx hZ (own_w hw 0 rfl) e0 (g := (mkF m 7 #[vi p1, vi p2, vi p3, vi p4, vi (0 : Int32), .unset, .unset] [(.int (0 : Int32))])) rfl (hb hby at_7) rfl (by decide) (cap := 0) (by decide) (by decide) (by decide) (by decide)
    obtain ⟨b5, gz5⟩ : ∃ z, z = h0.size := ⟨_, rfl⟩
    rw [← gz5] at A5 st5
    have g_b5 : n0 ≤ b5 := Nat.le_trans Z0 (Nat.le_of_eq gz5.symm)
    have Z6 : n0 ≤ h5.size := Nat.le_trans Z0 E5.1
    have V5 : Arv Z h5 b5 k5 .short (0 : Int32) [] (.int (0 : Int32)) := (Arv.new A5 (by decide)).pad (pad_rep [] (.int (0 : Int32)) 0)
    have go7 : Go p e below s₁ F0 T5 (mkF m 9 #[vi p1, vi p2, vi p3, vi p4, vi (0 : Int32), .unset, .unset] [(.ref b5)]) := fun t k => go4 t (st5 t k)
    have go8 : Go p e below s₁ F0 T5 (mkF m 48 #[vi p1, vi p2, vi p3, vi p4, vi (0 : Int32), vr b5, .unset] [(.ref b5)]) := by
      intro t kt
      refine go7 t ?_
      refine o_astore X5 hx (hb hby at_9) rfl (L' := #[vi p1, vi p2, vi p3, vi p4, vi (0 : Int32), vr b5, .unset]) rfl ?_
      refine o_iload X5 hx (hb hby at_11) rfl ?_
      refine o_ifYes X5 hx (hb hby at_13) (pc' := 22) rfl (by decide) ((if0 _ _).trans (flt (by decide : ¬ ((0 : Int32) < (0 : Int32)))).2.2.2) ?_
      refine o_iload X5 hx (hb hby at_22) rfl ?_
      refine o_iconst X5 hx (hb hby at_24) (v := 1) rfl ?_
      refine o_icmpYes X5 hx (hb hby at_25) (pc' := 34) rfl (by decide) (flt (by decide : ¬ ((1 : Int32) < (0 : Int32)))).2.2.2 ?_
      refine o_iload X5 hx (hb hby at_34) rfl ?_
      refine o_iconst X5 hx (hb hby at_36) (v := 2) rfl ?_
      refine o_icmpYes X5 hx (hb hby at_37) (pc' := 46) rfl (by decide) (flt (by decide : ¬ ((2 : Int32) < (0 : Int32)))).2.2.2 ?_
      refine o_aload X5 hx (hb hby at_46) rfl rfl ?_
      exact kt
    obtain ⟨_, _, ⟨T9, L9, k9, n9⟩, -, X9, ⟨Lc9, hQ9, l9, y9, z9⟩, st9⟩ := Jvm.LawKit.callS X5 hx (y := y_1) hown (mvT hZ (own_w hw 1 rfl)) (mvT hZ (own_w hw 2 rfl)) (mvT hZ (own_w hw 3 rfl)) (mvT hZ (own_w hw 4 rfl)) (by decide) (backOf (W := 0) (rm1_0 l Z a0 hw [] b5 k5 h5 n0 Z6 V5) hZ (own_w hw 4 rfl) (own_w hw 3 rfl) (by decide) (by decide)) (g := (mkF m 48 #[vi p1, vi p2, vi p3, vi p4, vi (0 : Int32), vr b5, .unset] [(.ref b5)])) rfl (by rw [hml]; rfl) (argsL := [(.ref b5)]) (rest := []) (lenOf pd0_0 rfl) rfl (by show 2 * 0 + _ ≤ _; exact Nat.le_of_eq rfl) (hb hby at_48) (fun _ _ => ⟨rfl, e5, (by decide : 1 + 1 ≤ _), (by decide : 0 + 0 ≤ _)⟩)
    dsimp only [Pt.U, Pt.locs, Pt.cells, Pt.slots] at X9 l9 y9 z9 st9 hQ9
    subst l9 y9 z9
    obtain ⟨b_9, kb_9, rfl, Nq9, Kc9, hb_9, V_9⟩ := hQ9
    have N9 := Fr.app N0 Nq9
    have ne10 : b5 ≠ b_9 := Nat.ne_of_lt (Nat.lt_of_lt_of_le V5.lt hb_9)
    have g_b_9 : n0 ≤ b_9 := Nat.le_trans Z6 hb_9
    have Z11 : n0 ≤ T9.heap.size := Nat.le_trans Z6 Kc9.1
    have go12 : Go p e below s₁ F0 T9 (mkF m 51 #[vi p1, vi p2, vi p3, vi p4, vi (0 : Int32), vr b5, .unset] [(.ref b_9)]) := fun t k => go8 t (st9 t k)
    have go13 : Go p e below s₁ F0 T9 (mkF m 60 #[vi p1, vi p2, vi p3, vi p4, vi (0 : Int32), vr b5, vr b_9] [(.ref b_9)]) := by
      intro t kt
      refine go12 t ?_
      refine o_astore X9 hx (hb hby at_51) rfl (L' := #[vi p1, vi p2, vi p3, vi p4, vi (0 : Int32), vr b5, vr b_9]) rfl ?_
      refine o_aload X9 hx (hb hby at_53) rfl rfl ?_
      refine o_ifnullNo X9 hx (hb hby at_55) ?_
      refine o_aload X9 hx (hb hby at_58) rfl rfl ?_
      exact kt
    obtain ⟨cl14, Ar14, -, Sz14, Nn14, -, -⟩ := id V_9
    have go15 : Go p e below s₁ F0 T9 (mkF m 77 #[vi p1, vi p2, vi p3, vi p4, vi (0 : Int32), vr b5, vr b_9] [(.int (p2.toInt16.toInt32)), (.int (0 : Int32)), (.int (0 : Int32)), (.ref b_9)]) := by
      intro t kt
      refine go13 t ?_
      refine o_len X9 hx hZ rfl Ar14 Sz14 Nn14 (hb hby at_60) ?_
      refine o_iconst X9 hx (hb hby at_61) (v := 2) rfl ?_
      refine o_iload X9 hx (hb hby at_62) rfl ?_
      refine o_imulE X9 hx (hb hby at_64) (v := 0) rfl ?_
      refine o_icmpYes X9 hx (hb hby at_65) (pc' := 70) rfl (by decide) (teq (by decide : (0 : Int32) = (0 : Int32))).1 ?_
      refine o_aload X9 hx (hb hby at_70) rfl rfl ?_
      refine o_iconst X9 hx (hb hby at_72) (v := 0) rfl ?_
      refine o_iload X9 hx (hb hby at_73) rfl ?_
      refine o_iloadN X9 hx (hb hby at_75) rfl ?_
      refine o_i2s X9 hx (hb hby at_76) ?_
      exact kt
    obtain ⟨_, _, ⟨T16, L16, k16, n16⟩, -, X16, ⟨Lc16, hQ16, l16, y16, z16⟩, st16⟩ := Jvm.LawKit.callS X9 hx (y := y_2) hown (mvT hZ (own_w hw 6 rfl)) (mvT hZ (own_w hw 7 rfl)) (mvT hZ (own_w hw 8 rfl)) (mvT hZ (own_w hw 9 rfl)) (by decide) (backOf (W := 0) (rm2_0_0 l Z a0 hw [] b_9 (p2.toInt16.toInt32) (T9.heap) n0 Z11 ) hZ (own_w hw 9 rfl) (own_w hw 8 rfl) (by decide) (by decide)) (g := (mkF m 77 #[vi p1, vi p2, vi p3, vi p4, vi (0 : Int32), vr b5, vr b_9] [(.int (p2.toInt16.toInt32)), (.int (0 : Int32)), (.int (0 : Int32)), (.ref b_9)])) rfl (by rw [hml]; rfl) (argsL := [(.ref b_9), (.int (0 : Int32)), (.int (0 : Int32)), (.int (p2.toInt16.toInt32))]) (rest := []) (lenOf pd0_1 rfl) rfl (by show 2 * 0 + _ ≤ _; exact Nat.le_of_eq rfl) (hb hby at_77) (fun _ _ => ⟨rfl, rfl, (by decide : 2 + 0 ≤ _), (by decide : 0 + 0 ≤ _)⟩)
    dsimp only [Pt.U, Pt.locs, Pt.cells, Pt.slots] at X16 l16 y16 z16 st16 hQ16
    subst l16 y16 z16
    obtain ⟨rfl, Nq16, eh16⟩ := hQ16
    have N16 := Fr.app N9 Nq16
    have go17 : Go p e below s₁ F0 T16 (mkF m 80 #[vi p1, vi p2, vi p3, vi p4, vi (0 : Int32), vr b5, vr b_9] [(.int (1 : Int32))]) := fun t k => go15 t (st16 t k)
    have go18 : Go p e below s₁ F0 T16 (mkF m 90 #[vi p1, vi p2, vi p3, vi p4, vi (0 : Int32), vr b5, vr b_9] [(.int (p3.toInt16.toInt32)), (.int (0 : Int32)), (.int (1 : Int32)), (.ref b_9)]) := by
      intro t kt
      refine go17 t ?_
      refine o_ifNo X16 hx (hb hby at_80) ((if0 _ _).trans (feq (by decide : ¬ ((1 : Int32) = (0 : Int32)))).1) ?_
      refine o_aload X16 hx (hb hby at_83) rfl rfl ?_
      refine o_iconst X16 hx (hb hby at_85) (v := 1) rfl ?_
      refine o_iload X16 hx (hb hby at_86) rfl ?_
      refine o_iloadN X16 hx (hb hby at_88) rfl ?_
      refine o_i2s X16 hx (hb hby at_89) ?_
      exact kt
    obtain ⟨_, _, ⟨T19, L19, k19, n19⟩, -, X19, ⟨Lc19, hQ19, l19, y19, z19⟩, st19⟩ := Jvm.LawKit.callS X16 hx (y := y_2) hown (mvT hZ (own_w hw 6 rfl)) (mvT hZ (own_w hw 7 rfl)) (mvT hZ (own_w hw 8 rfl)) (mvT hZ (own_w hw 9 rfl)) (by decide) (backOf (W := 0) (rm2_0_1 l Z a0 hw [] b_9 (p3.toInt16.toInt32) (T9.heap) n0 Z11 ) hZ (own_w hw 9 rfl) (own_w hw 8 rfl) (by decide) (by decide)) (g := (mkF m 90 #[vi p1, vi p2, vi p3, vi p4, vi (0 : Int32), vr b5, vr b_9] [(.int (p3.toInt16.toInt32)), (.int (0 : Int32)), (.int (1 : Int32)), (.ref b_9)])) rfl (by rw [hml]; rfl) (argsL := [(.ref b_9), (.int (1 : Int32)), (.int (0 : Int32)), (.int (p3.toInt16.toInt32))]) (rest := []) (lenOf pd0_1 rfl) rfl (by show 2 * 0 + _ ≤ _; exact Nat.le_of_eq rfl) (hb hby at_90) (fun _ _ => ⟨rfl, eh16, (by decide : 2 + 0 ≤ _), (by decide : 0 + 0 ≤ _)⟩)
    dsimp only [Pt.U, Pt.locs, Pt.cells, Pt.slots] at X19 l19 y19 z19 st19 hQ19
    subst l19 y19 z19
    obtain ⟨rfl, Nq19, eh19⟩ := hQ19
    have N19 := Fr.app N16 Nq19
    have go20 : Go p e below s₁ F0 T19 (mkF m 93 #[vi p1, vi p2, vi p3, vi p4, vi (0 : Int32), vr b5, vr b_9] [(.int (1 : Int32))]) := fun t k => go18 t (st19 t k)
    have go21 : Go p e below s₁ F0 T19 (mkF m 103 #[vi p1, vi p2, vi p3, vi p4, vi (0 : Int32), vr b5, vr b_9] [(.int (p4.toInt16.toInt32)), (.int (0 : Int32)), (.int (2 : Int32)), (.ref b_9)]) := by
      intro t kt
      refine go20 t ?_
      refine o_ifNo X19 hx (hb hby at_93) ((if0 _ _).trans (feq (by decide : ¬ ((1 : Int32) = (0 : Int32)))).1) ?_
      refine o_aload X19 hx (hb hby at_96) rfl rfl ?_
      refine o_iconst X19 hx (hb hby at_98) (v := 2) rfl ?_
      refine o_iload X19 hx (hb hby at_99) rfl ?_
      refine o_iloadN X19 hx (hb hby at_101) rfl ?_
      refine o_i2s X19 hx (hb hby at_102) ?_
      exact kt
    obtain ⟨_, _, ⟨T22, L22, k22, n22⟩, -, X22, ⟨Lc22, hQ22, l22, y22, z22⟩, st22⟩ := Jvm.LawKit.callS X19 hx (y := y_2) hown (mvT hZ (own_w hw 6 rfl)) (mvT hZ (own_w hw 7 rfl)) (mvT hZ (own_w hw 8 rfl)) (mvT hZ (own_w hw 9 rfl)) (by decide) (backOf (W := 0) (rm2_0_2 l Z a0 hw [] b_9 (p4.toInt16.toInt32) (T9.heap) n0 Z11 ) hZ (own_w hw 9 rfl) (own_w hw 8 rfl) (by decide) (by decide)) (g := (mkF m 103 #[vi p1, vi p2, vi p3, vi p4, vi (0 : Int32), vr b5, vr b_9] [(.int (p4.toInt16.toInt32)), (.int (0 : Int32)), (.int (2 : Int32)), (.ref b_9)])) rfl (by rw [hml]; rfl) (argsL := [(.ref b_9), (.int (2 : Int32)), (.int (0 : Int32)), (.int (p4.toInt16.toInt32))]) (rest := []) (lenOf pd0_1 rfl) rfl (by show 2 * 0 + _ ≤ _; exact Nat.le_of_eq rfl) (hb hby at_103) (fun _ _ => ⟨rfl, eh19, (by decide : 2 + 0 ≤ _), (by decide : 0 + 0 ≤ _)⟩)
    dsimp only [Pt.U, Pt.locs, Pt.cells, Pt.slots] at X22 l22 y22 z22 st22 hQ22
    subst l22 y22 z22
    obtain ⟨rfl, Nq22, eh22⟩ := hQ22
    have N22 := Fr.app N19 Nq22
    have go23 : Go p e below s₁ F0 T22 (mkF m 106 #[vi p1, vi p2, vi p3, vi p4, vi (0 : Int32), vr b5, vr b_9] [(.int (1 : Int32))]) := fun t k => go21 t (st22 t k)
    have go24 : Go p e below s₁ F0 T22 (mkF m 114 #[vi p1, vi p2, vi p3, vi p4, vi (0 : Int32), vr b5, vr b_9] [(.int (1 : Int32))]) := by
      intro t kt
      refine go23 t ?_
      refine o_ifNo X22 hx (hb hby at_106) ((if0 _ _).trans (feq (by decide : ¬ ((1 : Int32) = (0 : Int32)))).1) ?_
      refine o_iconst X22 hx (hb hby at_109) (v := 1) rfl ?_
      refine o_goto X22 hx (hb hby at_110) (pc' := 114) rfl (by decide) ?_
      exact kt
    obtain ⟨fs, hr, hrun, hended, hW, hsame⟩ := X22.leave (v := some (.int (1 : Int32))) (fun h => by rw [Bd.returns] at h; cases h)
    refine ⟨_, _, pre0 _ (go24 _ ?_), hrun, hended, _, _, rfl, ?_, ⟨_, rfl⟩, hW, hsame.mono (by decide) (by decide)⟩
    · skip
      exact retN X22 hx (t := .boolean) Bd.returns (by simp) (hb hby at_114) hr
    · show Q0 Z p1 p2 p3 p4 h0 n0 _ T22.heap _
      rw [eh22]
      exact ⟨rfl, N22⟩
  · skip
    have go25 : Go p e below s₁ F0 s₁ (mkF m 5 #[vi p1, vi p2, vi p3, vi p4, vi (1 : Int32), .unset, .unset] []) := by rw [hcs2] at go1; exact go1
    have go26 : Go p e below s₁ F0 s₁ (mkF m 7 #[vi p1, vi p2, vi p3, vi p4, vi (1 : Int32), .unset, .unset] [(.int (1 : Int32))]) := by
      intro t kt
      refine go25 t ?_
      refine o_iload X0 hx (hb hby at_5) rfl ?_
      exact kt
    obtain ⟨T27, h27, k27, X27, e27, E27, A27, st27⟩ := newP X0 hx hZ (own_w hw 0 rfl) e0 (g := (mkF m 7 #[vi p1, vi p2, vi p3, vi p4, vi (1 : Int32), .unset, .unset] [(.int (1 : Int32))])) rfl (hb hby at_7) rfl (by decide) (cap := 1) (by decide) (by decide) (by decide) (by decide)
    obtain ⟨b27, gz27⟩ : ∃ z, z = h0.size := ⟨_, rfl⟩
    rw [← gz27] at A27 st27
    have g_b27 : n0 ≤ b27 := Nat.le_trans Z0 (Nat.le_of_eq gz27.symm)
    have Z28 : n0 ≤ h27.size := Nat.le_trans Z0 E27.1
    have V27 : Arv Z h27 b27 k27 .short (1 : Int32) [(.int (0 : Int32))] (.int (0 : Int32)) := (Arv.new A27 (by decide)).pad (pad_rep [] (.int (0 : Int32)) 1)
    have go29 : Go p e below s₁ F0 T27 (mkF m 9 #[vi p1, vi p2, vi p3, vi p4, vi (1 : Int32), .unset, .unset] [(.ref b27)]) := fun t k => go26 t (st27 t k)
    have go30 : Go p e below s₁ F0 T27 (mkF m 21 #[vi p1, vi p2, vi p3, vi p4, vi (1 : Int32), vr b27, .unset] [(.int (p2.toInt16.toInt32)), (.int (0 : Int32)), (.ref b27)]) := by
      intro t kt
      refine go29 t ?_
      refine o_astore X27 hx (hb hby at_9) rfl (L' := #[vi p1, vi p2, vi p3, vi p4, vi (1 : Int32), vr b27, .unset]) rfl ?_
      refine o_iload X27 hx (hb hby at_11) rfl ?_
      refine o_ifNo X27 hx (hb hby at_13) ((if0 _ _).trans (tlt (by decide : (0 : Int32) < (1 : Int32))).2.2.2) ?_
      refine o_aload X27 hx (hb hby at_16) rfl rfl ?_
      refine o_iconst X27 hx (hb hby at_18) (v := 0) rfl ?_
      refine o_iloadN X27 hx (hb hby at_19) rfl ?_
      refine o_i2s X27 hx (hb hby at_20) ?_
      exact kt
    obtain ⟨cl31, Ar31, q31, Sz31, Nn31, Hs31, G31⟩ := id V27
    have hin31 : ¬ ((0 : Int32) < 0 ∨ cl31.slots.size ≤ ((0 : Int32)).toNatClampNeg) := inb_of Sz31 ⟨by decide, by decide⟩
    obtain ⟨T31, h31, X31, e31, W31, st31⟩ := stS X27 hx hZ e27 Ar31 (j := (0 : Int32)) hin31 (g := (mkF m 21 #[vi p1, vi p2, vi p3, vi p4, vi (1 : Int32), vr b27, .unset] [(.int (p2.toInt16.toInt32)), (.int (0 : Int32)), (.ref b27)])) rfl rfl (hb hby at_21)
    rw [own_nar_short] at W31
    have V31 : Arv Z h31 b27 k27 .short (1 : Int32) [(.int (p2.toInt16.toInt32))] (.int (0 : Int32)) := Arv.set Ar31 q31 Sz31 Nn31 Hs31 G31 (fits_nar_short _) W31 0 rfl (Nat.le_of_ble_eq_true rfl)
    have Z32 : n0 ≤ h31.size := Nat.le_trans Z28 (Keep.of_wr W31).1
    have N31 := Fr.snoc X31 N0 g_b27
    have go33 : Go p e below s₁ F0 T31 (mkF m 22 #[vi p1, vi p2, vi p3, vi p4, vi (1 : Int32), vr b27, .unset] []) := fun t k => go30 t (st31 t k)
    have go34 : Go p e below s₁ F0 T31 (mkF m 48 #[vi p1, vi p2, vi p3, vi p4, vi (1 : Int32), vr b27, .unset] [(.ref b27)]) := by
      intro t kt
      refine go33 t ?_
      refine o_iload X31 hx (hb hby at_22) rfl ?_
      refine o_iconst X31 hx (hb hby at_24) (v := 1) rfl ?_
      refine o_icmpYes X31 hx (hb hby at_25) (pc' := 34) rfl (by decide) (flt (by decide : ¬ ((1 : Int32) < (1 : Int32)))).2.2.2 ?_
      refine o_iload X31 hx (hb hby at_34) rfl ?_
      refine o_iconst X31 hx (hb hby at_36) (v := 2) rfl ?_
      refine o_icmpYes X31 hx (hb hby at_37) (pc' := 46) rfl (by decide) (flt (by decide : ¬ ((2 : Int32) < (1 : Int32)))).2.2.2 ?_
      refine o_aload X31 hx (hb hby at_46) rfl rfl ?_
      exact kt
    obtain ⟨_, _, ⟨T35, L35, k35, n35⟩, -, X35, ⟨Lc35, hQ35, l35, y35, z35⟩, st35⟩ := Jvm.LawKit.callS X31 hx (y := y_1) hown (mvT hZ (own_w hw 1 rfl)) (mvT hZ (own_w hw 2 rfl)) (mvT hZ (own_w hw 3 rfl)) (mvT hZ (own_w hw 4 rfl)) (by decide) (backOf (W := 0) (rm1_1 l Z a0 hw [] b27 k27 (p2.toInt16.toInt32) h31 n0 Z32 V31) hZ (own_w hw 4 rfl) (own_w hw 3 rfl) (by decide) (by decide)) (g := (mkF m 48 #[vi p1, vi p2, vi p3, vi p4, vi (1 : Int32), vr b27, .unset] [(.ref b27)])) rfl (by rw [hml]; rfl) (argsL := [(.ref b27)]) (rest := []) (lenOf pd0_0 rfl) rfl (by show 2 * 0 + _ ≤ _; exact Nat.le_of_eq rfl) (hb hby at_48) (fun _ _ => ⟨rfl, e31, (by decide : 1 + 1 ≤ _), (by decide : 1 + 2 ≤ _)⟩)
    dsimp only [Pt.U, Pt.locs, Pt.cells, Pt.slots] at X35 l35 y35 z35 st35 hQ35
    subst l35 y35 z35
    obtain ⟨b_35, kb_35, rfl, Nq35, Kc35, hb_35, V_35⟩ := hQ35
    have N35 := Fr.app N31 Nq35
    have ne36 : b27 ≠ b_35 := Nat.ne_of_lt (Nat.lt_of_lt_of_le V31.lt hb_35)
    have g_b_35 : n0 ≤ b_35 := Nat.le_trans Z32 hb_35
    have Z37 : n0 ≤ T35.heap.size := Nat.le_trans Z32 Kc35.1
    have go38 : Go p e below s₁ F0 T35 (mkF m 51 #[vi p1, vi p2, vi p3, vi p4, vi (1 : Int32), vr b27, .unset] [(.ref b_35)]) := fun t k => go34 t (st35 t k)
    have go39 : Go p e below s₁ F0 T35 (mkF m 60 #[vi p1, vi p2, vi p3, vi p4, vi (1 : Int32), vr b27, vr b_35] [(.ref b_35)]) := by
      intro t kt
      refine go38 t ?_
      refine o_astore X35 hx (hb hby at_51) rfl (L' := #[vi p1, vi p2, vi p3, vi p4, vi (1 : Int32), vr b27, vr b_35]) rfl ?_
      refine o_aload X35 hx (hb hby at_53) rfl rfl ?_
      refine o_ifnullNo X35 hx (hb hby at_55) ?_
      refine o_aload X35 hx (hb hby at_58) rfl rfl ?_
      exact kt
    obtain ⟨cl40, Ar40, -, Sz40, Nn40, -, -⟩ := id V_35
    have go41 : Go p e below s₁ F0 T35 (mkF m 77 #[vi p1, vi p2, vi p3, vi p4, vi (1 : Int32), vr b27, vr b_35] [(.int (p2.toInt16.toInt32)), (.int (1 : Int32)), (.int (0 : Int32)), (.ref b_35)]) := by
      intro t kt
      refine go39 t ?_
      refine o_len X35 hx hZ rfl Ar40 Sz40 Nn40 (hb hby at_60) ?_
      refine o_iconst X35 hx (hb hby at_61) (v := 2) rfl ?_
      refine o_iload X35 hx (hb hby at_62) rfl ?_
      refine o_imulE X35 hx (hb hby at_64) (v := 2) rfl ?_
      refine o_icmpYes X35 hx (hb hby at_65) (pc' := 70) rfl (by decide) (teq (by decide : (2 : Int32) = (2 : Int32))).1 ?_
      refine o_aload X35 hx (hb hby at_70) rfl rfl ?_
      refine o_iconst X35 hx (hb hby at_72) (v := 0) rfl ?_
      refine o_iload X35 hx (hb hby at_73) rfl ?_
      refine o_iloadN X35 hx (hb hby at_75) rfl ?_
      refine o_i2s X35 hx (hb hby at_76) ?_
      exact kt
    obtain ⟨_, _, ⟨T42, L42, k42, n42⟩, -, X42, ⟨Lc42, hQ42, l42, y42, z42⟩, st42⟩ := Jvm.LawKit.callS X35 hx (y := y_2) hown (mvT hZ (own_w hw 6 rfl)) (mvT hZ (own_w hw 7 rfl)) (mvT hZ (own_w hw 8 rfl)) (mvT hZ (own_w hw 9 rfl)) (by decide) (backOf (W := 0) (rm2_1_0 l Z a0 hw [] b_35 (p2.toInt16.toInt32) kb_35 ((p2.toInt16.toInt32).toInt8.toInt32) (((p2.toInt16.toInt32) >>> ((8 : Int32) &&& 31)).toInt8.toInt32) (T35.heap) n0 Z37 V_35 (own_pair _)) hZ (own_w hw 9 rfl) (own_w hw 8 rfl) (by decide) (by decide)) (g := (mkF m 77 #[vi p1, vi p2, vi p3, vi p4, vi (1 : Int32), vr b27, vr b_35] [(.int (p2.toInt16.toInt32)), (.int (1 : Int32)), (.int (0 : Int32)), (.ref b_35)])) rfl (by rw [hml]; rfl) (argsL := [(.ref b_35), (.int (0 : Int32)), (.int (1 : Int32)), (.int (p2.toInt16.toInt32))]) (rest := []) (lenOf pd0_1 rfl) rfl (by show 2 * 0 + _ ≤ _; exact Nat.le_of_eq rfl) (hb hby at_77) (fun _ _ => ⟨rfl, rfl, (by decide : 2 + 0 ≤ _), (by decide : 3 + 0 ≤ _)⟩)
    dsimp only [Pt.U, Pt.locs, Pt.cells, Pt.slots] at X42 l42 y42 z42 st42 hQ42
    subst l42 y42 z42
    obtain ⟨rfl, Nq42, eh42⟩ := hQ42
    have N42 := Fr.app N35 Nq42
    have go43 : Go p e below s₁ F0 T42 (mkF m 80 #[vi p1, vi p2, vi p3, vi p4, vi (1 : Int32), vr b27, vr b_35] [(.int (1 : Int32))]) := fun t k => go41 t (st42 t k)
    have go44 : Go p e below s₁ F0 T42 (mkF m 90 #[vi p1, vi p2, vi p3, vi p4, vi (1 : Int32), vr b27, vr b_35] [(.int (p3.toInt16.toInt32)), (.int (1 : Int32)), (.int (1 : Int32)), (.ref b_35)]) := by
      intro t kt
      refine go43 t ?_
      refine o_ifNo X42 hx (hb hby at_80) ((if0 _ _).trans (feq (by decide : ¬ ((1 : Int32) = (0 : Int32)))).1) ?_
      refine o_aload X42 hx (hb hby at_83) rfl rfl ?_
      refine o_iconst X42 hx (hb hby at_85) (v := 1) rfl ?_
      refine o_iload X42 hx (hb hby at_86) rfl ?_
      refine o_iloadN X42 hx (hb hby at_88) rfl ?_
      refine o_i2s X42 hx (hb hby at_89) ?_
      exact kt
    obtain ⟨_, _, ⟨T45, L45, k45, n45⟩, -, X45, ⟨Lc45, hQ45, l45, y45, z45⟩, st45⟩ := Jvm.LawKit.callS X42 hx (y := y_2) hown (mvT hZ (own_w hw 6 rfl)) (mvT hZ (own_w hw 7 rfl)) (mvT hZ (own_w hw 8 rfl)) (mvT hZ (own_w hw 9 rfl)) (by decide) (backOf (W := 0) (rm2_1_1 l Z a0 hw [] b_35 (p3.toInt16.toInt32) (T35.heap) n0 Z37 ) hZ (own_w hw 9 rfl) (own_w hw 8 rfl) (by decide) (by decide)) (g := (mkF m 90 #[vi p1, vi p2, vi p3, vi p4, vi (1 : Int32), vr b27, vr b_35] [(.int (p3.toInt16.toInt32)), (.int (1 : Int32)), (.int (1 : Int32)), (.ref b_35)])) rfl (by rw [hml]; rfl) (argsL := [(.ref b_35), (.int (1 : Int32)), (.int (1 : Int32)), (.int (p3.toInt16.toInt32))]) (rest := []) (lenOf pd0_1 rfl) rfl (by show 2 * 0 + _ ≤ _; exact Nat.le_of_eq rfl) (hb hby at_90) (fun _ _ => ⟨rfl, eh42, (by decide : 2 + 0 ≤ _), (by decide : 3 + 0 ≤ _)⟩)
    dsimp only [Pt.U, Pt.locs, Pt.cells, Pt.slots] at X45 l45 y45 z45 st45 hQ45
    subst l45 y45 z45
    obtain ⟨rfl, Nq45, eh45⟩ := hQ45
    have N45 := Fr.app N42 Nq45
    have go46 : Go p e below s₁ F0 T45 (mkF m 93 #[vi p1, vi p2, vi p3, vi p4, vi (1 : Int32), vr b27, vr b_35] [(.int (1 : Int32))]) := fun t k => go44 t (st45 t k)
    have go47 : Go p e below s₁ F0 T45 (mkF m 103 #[vi p1, vi p2, vi p3, vi p4, vi (1 : Int32), vr b27, vr b_35] [(.int (p4.toInt16.toInt32)), (.int (1 : Int32)), (.int (2 : Int32)), (.ref b_35)]) := by
      intro t kt
      refine go46 t ?_
      refine o_ifNo X45 hx (hb hby at_93) ((if0 _ _).trans (feq (by decide : ¬ ((1 : Int32) = (0 : Int32)))).1) ?_
      refine o_aload X45 hx (hb hby at_96) rfl rfl ?_
      refine o_iconst X45 hx (hb hby at_98) (v := 2) rfl ?_
      refine o_iload X45 hx (hb hby at_99) rfl ?_
      refine o_iloadN X45 hx (hb hby at_101) rfl ?_
      refine o_i2s X45 hx (hb hby at_102) ?_
      exact kt
    obtain ⟨_, _, ⟨T48, L48, k48, n48⟩, -, X48, ⟨Lc48, hQ48, l48, y48, z48⟩, st48⟩ := Jvm.LawKit.callS X45 hx (y := y_2) hown (mvT hZ (own_w hw 6 rfl)) (mvT hZ (own_w hw 7 rfl)) (mvT hZ (own_w hw 8 rfl)) (mvT hZ (own_w hw 9 rfl)) (by decide) (backOf (W := 0) (rm2_1_2 l Z a0 hw [] b_35 (p4.toInt16.toInt32) (T35.heap) n0 Z37 ) hZ (own_w hw 9 rfl) (own_w hw 8 rfl) (by decide) (by decide)) (g := (mkF m 103 #[vi p1, vi p2, vi p3, vi p4, vi (1 : Int32), vr b27, vr b_35] [(.int (p4.toInt16.toInt32)), (.int (1 : Int32)), (.int (2 : Int32)), (.ref b_35)])) rfl (by rw [hml]; rfl) (argsL := [(.ref b_35), (.int (2 : Int32)), (.int (1 : Int32)), (.int (p4.toInt16.toInt32))]) (rest := []) (lenOf pd0_1 rfl) rfl (by show 2 * 0 + _ ≤ _; exact Nat.le_of_eq rfl) (hb hby at_103) (fun _ _ => ⟨rfl, eh45, (by decide : 2 + 0 ≤ _), (by decide : 3 + 0 ≤ _)⟩)
    dsimp only [Pt.U, Pt.locs, Pt.cells, Pt.slots] at X48 l48 y48 z48 st48 hQ48
    subst l48 y48 z48
    obtain ⟨rfl, Nq48, eh48⟩ := hQ48
    have N48 := Fr.app N45 Nq48
    have go49 : Go p e below s₁ F0 T48 (mkF m 106 #[vi p1, vi p2, vi p3, vi p4, vi (1 : Int32), vr b27, vr b_35] [(.int (1 : Int32))]) := fun t k => go47 t (st48 t k)
    have go50 : Go p e below s₁ F0 T48 (mkF m 114 #[vi p1, vi p2, vi p3, vi p4, vi (1 : Int32), vr b27, vr b_35] [(.int (1 : Int32))]) := by
      intro t kt
      refine go49 t ?_
      refine o_ifNo X48 hx (hb hby at_106) ((if0 _ _).trans (feq (by decide : ¬ ((1 : Int32) = (0 : Int32)))).1) ?_
      refine o_iconst X48 hx (hb hby at_109) (v := 1) rfl ?_
      refine o_goto X48 hx (hb hby at_110) (pc' := 114) rfl (by decide) ?_
      exact kt
    obtain ⟨fs, hr, hrun, hended, hW, hsame⟩ := X48.leave (v := some (.int (1 : Int32))) (fun h => by rw [Bd.returns] at h; cases h)
    refine ⟨_, _, pre0 _ (go50 _ ?_), hrun, hended, _, _, rfl, ?_, ⟨_, rfl⟩, hW, hsame.mono (by decide) (by decide)⟩
    · skip
      exact retN X48 hx (t := .boolean) Bd.returns (by simp) (hb hby at_114) hr
    · show Q0 Z p1 p2 p3 p4 h0 n0 _ T48.heap _
      rw [eh48]
      exact ⟨rfl, N48⟩
  · skip
    have go51 : Go p e below s₁ F0 s₁ (mkF m 5 #[vi p1, vi p2, vi p3, vi p4, vi (2 : Int32), .unset, .unset] []) := by rw [hcs2] at go1; exact go1
    have go52 : Go p e below s₁ F0 s₁ (mkF m 7 #[vi p1, vi p2, vi p3, vi p4, vi (2 : Int32), .unset, .unset] [(.int (2 : Int32))]) := by
      intro t kt
      refine go51 t ?_
      refine o_iload X0 hx (hb hby at_5) rfl ?_
      exact kt
    obtain ⟨T53, h53, k53, X53, e53, E53, A53, st53⟩ := newP X0 hx hZ (own_w hw 0 rfl) e0 (g := (mkF m 7 #[vi p1, vi p2, vi p3, vi p4, vi (2 : Int32), .unset, .unset] [(.int (2 : Int32))])) rfl (hb hby at_7) rfl (by decide) (cap := 2) (by decide) (by decide) (by decide) (by decide)
    obtain ⟨b53, gz53⟩ : ∃ z, z = h0.size := ⟨_, rfl⟩
    rw [← gz53] at A53 st53
    have g_b53 : n0 ≤ b53 := Nat.le_trans Z0 (Nat.le_of_eq gz53.symm)
    have Z54 : n0 ≤ h53.size := Nat.le_trans Z0 E53.1
    have V53 : Arv Z h53 b53 k53 .short (2 : Int32) [(.int (0 : Int32)), (.int (0 : Int32))] (.int (0 : Int32)) := (Arv.new A53 (by decide)).pad (pad_rep [] (.int (0 : Int32)) 2)
    have go55 : Go p e below s₁ F0 T53 (mkF m 9 #[vi p1, vi p2, vi p3, vi p4, vi (2 : Int32), .unset, .unset] [(.ref b53)]) := fun t k => go52 t (st53 t k)
    have go56 : Go p e below s₁ F0 T53 (mkF m 21 #[vi p1, vi p2, vi p3, vi p4, vi (2 : Int32), vr b53, .unset] [(.int (p2.toInt16.toInt32)), (.int (0 : Int32)), (.ref b53)]) := by
      intro t kt
      refine go55 t ?_
      refine o_astore X53 hx (hb hby at_9) rfl (L' := #[vi p1, vi p2, vi p3, vi p4, vi (2 : Int32), vr b53, .unset]) rfl ?_
      refine o_iload X53 hx (hb hby at_11) rfl ?_
      refine o_ifNo X53 hx (hb hby at_13) ((if0 _ _).trans (tlt (by decide : (0 : Int32) < (2 : Int32))).2.2.2) ?_
      refine o_aload X53 hx (hb hby at_16) rfl rfl ?_
      refine o_iconst X53 hx (hb hby at_18) (v := 0) rfl ?_
      refine o_iloadN X53 hx (hb hby at_19) rfl ?_
      refine o_i2s X53 hx (hb hby at_20) ?_
      exact kt
    obtain ⟨cl57, Ar57, q57, Sz57, Nn57, Hs57, G57⟩ := id V53
    have hin57 : ¬ ((0 : Int32) < 0 ∨ cl57.slots.size ≤ ((0 : Int32)).toNatClampNeg) := inb_of Sz57 ⟨by decide, by decide⟩
    obtain ⟨T57, h57, X57, e57, W57, st57⟩ := stS X53 hx hZ e53 Ar57 (j := (0 : Int32)) hin57 (g := (mkF m 21 #[vi p1, vi p2, vi p3, vi p4, vi (2 : Int32), vr b53, .unset] [(.int (p2.toInt16.toInt32)), (.int (0 : Int32)), (.ref b53)])) rfl rfl (hb hby at_21)
    rw [own_nar_short] at W57
    have V57 : Arv Z h57 b53 k53 .short (2 : Int32) [(.int (p2.toInt16.toInt32)), (.int (0 : Int32))] (.int (0 : Int32)) := Arv.set Ar57 q57 Sz57 Nn57 Hs57 G57 (fits_nar_short _) W57 0 rfl (Nat.le_of_ble_eq_true rfl)
    have Z58 : n0 ≤ h57.size := Nat.le_trans Z54 (Keep.of_wr W57).1
    have N57 := Fr.snoc X57 N0 g_b53
    have go59 : Go p e below s₁ F0 T57 (mkF m 22 #[vi p1, vi p2, vi p3, vi p4, vi (2 : Int32), vr b53, .unset] []) := fun t k => go56 t (st57 t k)
    have go60 : Go p e below s₁ F0 T57 (mkF m 33 #[vi p1, vi p2, vi p3, vi p4, vi (2 : Int32), vr b53, .unset] [(.int (p3.toInt16.toInt32)), (.int (1 : Int32)), (.ref b53)]) := by
      intro t kt
      refine go59 t ?_
      refine o_iload X57 hx (hb hby at_22) rfl ?_
      refine o_iconst X57 hx (hb hby at_24) (v := 1) rfl ?_
      refine o_icmpNo X57 hx (hb hby at_25) (tlt (by decide : (1 : Int32) < (2 : Int32))).2.2.2 ?_
      refine o_aload X57 hx (hb hby at_28) rfl rfl ?_
      refine o_iconst X57 hx (hb hby at_30) (v := 1) rfl ?_
      refine o_iloadN X57 hx (hb hby at_31) rfl ?_
      refine o_i2s X57 hx (hb hby at_32) ?_
      exact kt
    obtain ⟨cl61, Ar61, q61, Sz61, Nn61, Hs61, G61⟩ := id V57
    have hin61 : ¬ ((1 : Int32) < 0 ∨ cl61.slots.size ≤ ((1 : Int32)).toNatClampNeg) := inb_of Sz61 ⟨by decide, by decide⟩
    obtain ⟨T61, h61, X61, e61, W61, st61⟩ := stS X57 hx hZ e57 Ar61 (j := (1 : Int32)) hin61 (g := (mkF m 33 #[vi p1, vi p2, vi p3, vi p4, vi (2 : Int32), vr b53, .unset] [(.int (p3.toInt16.toInt32)), (.int (1 : Int32)), (.ref b53)])) rfl rfl (hb hby at_33)
    rw [own_nar_short] at W61
    have V61 : Arv Z h61 b53 k53 .short (2 : Int32) [(.int (p2.toInt16.toInt32)), (.int (p3.toInt16.toInt32))] (.int (0 : Int32)) := Arv.set Ar61 q61 Sz61 Nn61 Hs61 G61 (fits_nar_short _) W61 1 rfl (Nat.le_of_ble_eq_true rfl)
    have Z62 : n0 ≤ h61.size := Nat.le_trans Z58 (Keep.of_wr W61).1
    have N61 := Fr.snoc X61 N57 g_b53
    have go63 : Go p e below s₁ F0 T61 (mkF m 34 #[vi p1, vi p2, vi p3, vi p4, vi (2 : Int32), vr b53, .unset] []) := fun t k => go60 t (st61 t k)
    have go64 : Go p e below s₁ F0 T61 (mkF m 48 #[vi p1, vi p2, vi p3, vi p4, vi (2 : Int32), vr b53, .unset] [(.ref b53)]) := by
      intro t kt
      refine go63 t ?_
      refine o_iload X61 hx (hb hby at_34) rfl ?_
      refine o_iconst X61 hx (hb hby at_36) (v := 2) rfl ?_
      refine o_icmpYes X61 hx (hb hby at_37) (pc' := 46) rfl (by decide) (flt (by decide : ¬ ((2 : Int32) < (2 : Int32)))).2.2.2 ?_
      refine o_aload X61 hx (hb hby at_46) rfl rfl ?_
      exact kt
    obtain ⟨_, _, ⟨T65, L65, k65, n65⟩, -, X65, ⟨Lc65, hQ65, l65, y65, z65⟩, st65⟩ := Jvm.LawKit.callS X61 hx (y := y_1) hown (mvT hZ (own_w hw 1 rfl)) (mvT hZ (own_w hw 2 rfl)) (mvT hZ (own_w hw 3 rfl)) (mvT hZ (own_w hw 4 rfl)) (by decide) (backOf (W := 0) (rm1_2 l Z a0 hw [] b53 k53 (p2.toInt16.toInt32) (p3.toInt16.toInt32) h61 n0 Z62 V61) hZ (own_w hw 4 rfl) (own_w hw 3 rfl) (by decide) (by decide)) (g := (mkF m 48 #[vi p1, vi p2, vi p3, vi p4, vi (2 : Int32), vr b53, .unset] [(.ref b53)])) rfl (by rw [hml]; rfl) (argsL := [(.ref b53)]) (rest := []) (lenOf pd0_0 rfl) rfl (by show 2 * 0 + _ ≤ _; exact Nat.le_of_eq rfl) (hb hby at_48) (fun _ _ => ⟨rfl, e61, (by decide : 1 + 1 ≤ _), (by decide : 2 + 4 ≤ _)⟩)
    dsimp only [Pt.U, Pt.locs, Pt.cells, Pt.slots] at X65 l65 y65 z65 st65 hQ65
    subst l65 y65 z65
    obtain ⟨b_65, kb_65, rfl, Nq65, Kc65, hb_65, V_65⟩ := hQ65
    have N65 := Fr.app N61 Nq65
    have ne66 : b53 ≠ b_65 := Nat.ne_of_lt (Nat.lt_of_lt_of_le V61.lt hb_65)
    have g_b_65 : n0 ≤ b_65 := Nat.le_trans Z62 hb_65
    have Z67 : n0 ≤ T65.heap.size := Nat.le_trans Z62 Kc65.1
    have go68 : Go p e below s₁ F0 T65 (mkF m 51 #[vi p1, vi p2, vi p3, vi p4, vi (2 : Int32), vr b53, .unset] [(.ref b_65)]) := fun t k => go64 t (st65 t k)
    have go69 : Go p e below s₁ F0 T65 (mkF m 60 #[vi p1, vi p2, vi p3, vi p4, vi (2 : Int32), vr b53, vr b_65] [(.ref b_65)]) := by
      intro t kt
      refine go68 t ?_
      refine o_astore X65 hx (hb hby at_51) rfl (L' := #[vi p1, vi p2, vi p3, vi p4, vi (2 : Int32), vr b53, vr b_65]) rfl ?_
      refine o_aload X65 hx (hb hby at_53) rfl rfl ?_
      refine o_ifnullNo X65 hx (hb hby at_55) ?_
      refine o_aload X65 hx (hb hby at_58) rfl rfl ?_
      exact kt
    obtain ⟨cl70, Ar70, -, Sz70, Nn70, -, -⟩ := id V_65
    have go71 : Go p e below s₁ F0 T65 (mkF m 77 #[vi p1, vi p2, vi p3, vi p4, vi (2 : Int32), vr b53, vr b_65] [(.int (p2.toInt16.toInt32)), (.int (2 : Int32)), (.int (0 : Int32)), (.ref b_65)]) := by
      intro t kt
      refine go69 t ?_
      refine o_len X65 hx hZ rfl Ar70 Sz70 Nn70 (hb hby at_60) ?_
      refine o_iconst X65 hx (hb hby at_61) (v := 2) rfl ?_
      refine o_iload X65 hx (hb hby at_62) rfl ?_
      refine o_imulE X65 hx (hb hby at_64) (v := 4) rfl ?_
      refine o_icmpYes X65 hx (hb hby at_65) (pc' := 70) rfl (by decide) (teq (by decide : (4 : Int32) = (4 : Int32))).1 ?_
      refine o_aload X65 hx (hb hby at_70) rfl rfl ?_
      refine o_iconst X65 hx (hb hby at_72) (v := 0) rfl ?_
      refine o_iload X65 hx (hb hby at_73) rfl ?_
      refine o_iloadN X65 hx (hb hby at_75) rfl ?_
      refine o_i2s X65 hx (hb hby at_76) ?_
      exact kt
    obtain ⟨_, _, ⟨T72, L72, k72, n72⟩, -, X72, ⟨Lc72, hQ72, l72, y72, z72⟩, st72⟩ := Jvm.LawKit.callS X65 hx (y := y_2) hown (mvT hZ (own_w hw 6 rfl)) (mvT hZ (own_w hw 7 rfl)) (mvT hZ (own_w hw 8 rfl)) (mvT hZ (own_w hw 9 rfl)) (by decide) (backOf (W := 0) (rm2_2_0 l Z a0 hw [] b_65 (p2.toInt16.toInt32) kb_65 ((p2.toInt16.toInt32).toInt8.toInt32) (((p2.toInt16.toInt32) >>> ((8 : Int32) &&& 31)).toInt8.toInt32) ((p3.toInt16.toInt32).toInt8.toInt32) (((p3.toInt16.toInt32) >>> ((8 : Int32) &&& 31)).toInt8.toInt32) (T65.heap) n0 Z67 V_65 (own_pair _)) hZ (own_w hw 9 rfl) (own_w hw 8 rfl) (by decide) (by decide)) (g := (mkF m 77 #[vi p1, vi p2, vi p3, vi p4, vi (2 : Int32), vr b53, vr b_65] [(.int (p2.toInt16.toInt32)), (.int (2 : Int32)), (.int (0 : Int32)), (.ref b_65)])) rfl (by rw [hml]; rfl) (argsL := [(.ref b_65), (.int (0 : Int32)), (.int (2 : Int32)), (.int (p2.toInt16.toInt32))]) (rest := []) (lenOf pd0_1 rfl) rfl (by show 2 * 0 + _ ≤ _; exact Nat.le_of_eq rfl) (hb hby at_77) (fun _ _ => ⟨rfl, rfl, (by decide : 2 + 0 ≤ _), (by decide : 6 + 0 ≤ _)⟩)
    dsimp only [Pt.U, Pt.locs, Pt.cells, Pt.slots] at X72 l72 y72 z72 st72 hQ72
    subst l72 y72 z72
    obtain ⟨rfl, Nq72, eh72⟩ := hQ72
    have N72 := Fr.app N65 Nq72
    have go73 : Go p e below s₁ F0 T72 (mkF m 80 #[vi p1, vi p2, vi p3, vi p4, vi (2 : Int32), vr b53, vr b_65] [(.int (1 : Int32))]) := fun t k => go71 t (st72 t k)
    have go74 : Go p e below s₁ F0 T72 (mkF m 90 #[vi p1, vi p2, vi p3, vi p4, vi (2 : Int32), vr b53, vr b_65] [(.int (p3.toInt16.toInt32)), (.int (2 : Int32)), (.int (1 : Int32)), (.ref b_65)]) := by
      intro t kt
      refine go73 t ?_
      refine o_ifNo X72 hx (hb hby at_80) ((if0 _ _).trans (feq (by decide : ¬ ((1 : Int32) = (0 : Int32)))).1) ?_
      refine o_aload X72 hx (hb hby at_83) rfl rfl ?_
      refine o_iconst X72 hx (hb hby at_85) (v := 1) rfl ?_
      refine o_iload X72 hx (hb hby at_86) rfl ?_
      refine o_iloadN X72 hx (hb hby at_88) rfl ?_
      refine o_i2s X72 hx (hb hby at_89) ?_
      exact kt
    obtain ⟨_, _, ⟨T75, L75, k75, n75⟩, -, X75, ⟨Lc75, hQ75, l75, y75, z75⟩, st75⟩ := Jvm.LawKit.callS X72 hx (y := y_2) hown (mvT hZ (own_w hw 6 rfl)) (mvT hZ (own_w hw 7 rfl)) (mvT hZ (own_w hw 8 rfl)) (mvT hZ (own_w hw 9 rfl)) (by decide) (backOf (W := 0) (rm2_2_1 l Z a0 hw [] b_65 (p3.toInt16.toInt32) kb_65 ((p2.toInt16.toInt32).toInt8.toInt32) (((p2.toInt16.toInt32) >>> ((8 : Int32) &&& 31)).toInt8.toInt32) ((p3.toInt16.toInt32).toInt8.toInt32) (((p3.toInt16.toInt32) >>> ((8 : Int32) &&& 31)).toInt8.toInt32) (T65.heap) n0 Z67 V_65 (own_pair _)) hZ (own_w hw 9 rfl) (own_w hw 8 rfl) (by decide) (by decide)) (g := (mkF m 90 #[vi p1, vi p2, vi p3, vi p4, vi (2 : Int32), vr b53, vr b_65] [(.int (p3.toInt16.toInt32)), (.int (2 : Int32)), (.int (1 : Int32)), (.ref b_65)])) rfl (by rw [hml]; rfl) (argsL := [(.ref b_65), (.int (1 : Int32)), (.int (2 : Int32)), (.int (p3.toInt16.toInt32))]) (rest := []) (lenOf pd0_1 rfl) rfl (by show 2 * 0 + _ ≤ _; exact Nat.le_of_eq rfl) (hb hby at_90) (fun _ _ => ⟨rfl, eh72, (by decide : 2 + 0 ≤ _), (by decide : 6 + 0 ≤ _)⟩)
    dsimp only [Pt.U, Pt.locs, Pt.cells, Pt.slots] at X75 l75 y75 z75 st75 hQ75
    subst l75 y75 z75
    obtain ⟨rfl, Nq75, eh75⟩ := hQ75
    have N75 := Fr.app N72 Nq75
    have go76 : Go p e below s₁ F0 T75 (mkF m 93 #[vi p1, vi p2, vi p3, vi p4, vi (2 : Int32), vr b53, vr b_65] [(.int (1 : Int32))]) := fun t k => go74 t (st75 t k)
    have go77 : Go p e below s₁ F0 T75 (mkF m 103 #[vi p1, vi p2, vi p3, vi p4, vi (2 : Int32), vr b53, vr b_65] [(.int (p4.toInt16.toInt32)), (.int (2 : Int32)), (.int (2 : Int32)), (.ref b_65)]) := by
      intro t kt
      refine go76 t ?_
      refine o_ifNo X75 hx (hb hby at_93) ((if0 _ _).trans (feq (by decide : ¬ ((1 : Int32) = (0 : Int32)))).1) ?_
      refine o_aload X75 hx (hb hby at_96) rfl rfl ?_
      refine o_iconst X75 hx (hb hby at_98) (v := 2) rfl ?_
      refine o_iload X75 hx (hb hby at_99) rfl ?_
      refine o_iloadN X75 hx (hb hby at_101) rfl ?_
      refine o_i2s X75 hx (hb hby at_102) ?_
      exact kt
    obtain ⟨_, _, ⟨T78, L78, k78, n78⟩, -, X78, ⟨Lc78, hQ78, l78, y78, z78⟩, st78⟩ := Jvm.LawKit.callS X75 hx (y := y_2) hown (mvT hZ (own_w hw 6 rfl)) (mvT hZ (own_w hw 7 rfl)) (mvT hZ (own_w hw 8 rfl)) (mvT hZ (own_w hw 9 rfl)) (by decide) (backOf (W := 0) (rm2_2_2 l Z a0 hw [] b_65 (p4.toInt16.toInt32) (T65.heap) n0 Z67 ) hZ (own_w hw 9 rfl) (own_w hw 8 rfl) (by decide) (by decide)) (g := (mkF m 103 #[vi p1, vi p2, vi p3, vi p4, vi (2 : Int32), vr b53, vr b_65] [(.int (p4.toInt16.toInt32)), (.int (2 : Int32)), (.int (2 : Int32)), (.ref b_65)])) rfl (by rw [hml]; rfl) (argsL := [(.ref b_65), (.int (2 : Int32)), (.int (2 : Int32)), (.int (p4.toInt16.toInt32))]) (rest := []) (lenOf pd0_1 rfl) rfl (by show 2 * 0 + _ ≤ _; exact Nat.le_of_eq rfl) (hb hby at_103) (fun _ _ => ⟨rfl, eh75, (by decide : 2 + 0 ≤ _), (by decide : 6 + 0 ≤ _)⟩)
    dsimp only [Pt.U, Pt.locs, Pt.cells, Pt.slots] at X78 l78 y78 z78 st78 hQ78
    subst l78 y78 z78
    obtain ⟨rfl, Nq78, eh78⟩ := hQ78
    have N78 := Fr.app N75 Nq78
    have go79 : Go p e below s₁ F0 T78 (mkF m 106 #[vi p1, vi p2, vi p3, vi p4, vi (2 : Int32), vr b53, vr b_65] [(.int (1 : Int32))]) := fun t k => go77 t (st78 t k)
    have go80 : Go p e below s₁ F0 T78 (mkF m 114 #[vi p1, vi p2, vi p3, vi p4, vi (2 : Int32), vr b53, vr b_65] [(.int (1 : Int32))]) := by
      intro t kt
      refine go79 t ?_
      refine o_ifNo X78 hx (hb hby at_106) ((if0 _ _).trans (feq (by decide : ¬ ((1 : Int32) = (0 : Int32)))).1) ?_
      refine o_iconst X78 hx (hb hby at_109) (v := 1) rfl ?_
      refine o_goto X78 hx (hb hby at_110) (pc' := 114) rfl (by decide) ?_
      exact kt
    obtain ⟨fs, hr, hrun, hended, hW, hsame⟩ := X78.leave (v := some (.int (1 : Int32))) (fun h => by rw [Bd.returns] at h; cases h)
    refine ⟨_, _, pre0 _ (go80 _ ?_), hrun, hended, _, _, rfl, ?_, ⟨_, rfl⟩, hW, hsame.mono (by decide) (by decide)⟩
    · skip
      exact retN X78 hx (t := .boolean) Bd.returns (by simp) (hb hby at_114) hr
    · show Q0 Z p1 p2 p3 p4 h0 n0 _ T78.heap _
      rw [eh78]
      exact ⟨rfl, N78⟩
  · skip
    have go81 : Go p e below s₁ F0 s₁ (mkF m 5 #[vi p1, vi p2, vi p3, vi p4, vi (3 : Int32), .unset, .unset] []) := by rw [hcs2] at go1; exact go1
    have go82 : Go p e below s₁ F0 s₁ (mkF m 7 #[vi p1, vi p2, vi p3, vi p4, vi (3 : Int32), .unset, .unset] [(.int (3 : Int32))]) := by
      intro t kt
      refine go81 t ?_
      refine o_iload X0 hx (hb hby at_5) rfl ?_
      exact kt
    obtain ⟨T83, h83, k83, X83, e83, E83, A83, st83⟩ := newP X0 hx hZ (own_w hw 0 rfl) e0 (g := (mkF m 7 #[vi p1, vi p2, vi p3, vi p4, vi (3 : Int32), .unset, .unset] [(.int (3 : Int32))])) rfl (hb hby at_7) rfl (by decide) (cap := 3) (by decide) (by decide) (by decide) (by decide)
    obtain ⟨b83, gz83⟩ : ∃ z, z = h0.size := ⟨_, rfl⟩
    rw [← gz83] at A83 st83
    have g_b83 : n0 ≤ b83 := Nat.le_trans Z0 (Nat.le_of_eq gz83.symm)
    have Z84 : n0 ≤ h83.size := Nat.le_trans Z0 E83.1
    have V83 : Arv Z h83 b83 k83 .short (3 : Int32) [(.int (0 : Int32)), (.int (0 : Int32)), (.int (0 : Int32))] (.int (0 : Int32)) := (Arv.new A83 (by decide)).pad (pad_rep [] (.int (0 : Int32)) 3)
    have go85 : Go p e below s₁ F0 T83 (mkF m 9 #[vi p1, vi p2, vi p3, vi p4, vi (3 : Int32), .unset, .unset] [(.ref b83)]) := fun t k => go82 t (st83 t k)
    have go86 : Go p e below s₁ F0 T83 (mkF m 21 #[vi p1, vi p2, vi p3, vi p4, vi (3 : Int32), vr b83, .unset] [(.int (p2.toInt16.toInt32)), (.int (0 : Int32)), (.ref b83)]) := by
      intro t kt
      refine go85 t ?_
      refine o_astore X83 hx (hb hby at_9) rfl (L' := #[vi p1, vi p2, vi p3, vi p4, vi (3 : Int32), vr b83, .unset]) rfl ?_
      refine o_iload X83 hx (hb hby at_11) rfl ?_
      refine o_ifNo X83 hx (hb hby at_13) ((if0 _ _).trans (tlt (by decide : (0 : Int32) < (3 : Int32))).2.2.2) ?_
      refine o_aload X83 hx (hb hby at_16) rfl rfl ?_
      refine o_iconst X83 hx (hb hby at_18) (v := 0) rfl ?_
      refine o_iloadN X83 hx (hb hby at_19) rfl ?_
      refine o_i2s X83 hx (hb hby at_20) ?_
      exact kt
    obtain ⟨cl87, Ar87, q87, Sz87, Nn87, Hs87, G87⟩ := id V83
    have hin87 : ¬ ((0 : Int32) < 0 ∨ cl87.slots.size ≤ ((0 : Int32)).toNatClampNeg) := inb_of Sz87 ⟨by decide, by decide⟩
    obtain ⟨T87, h87, X87, e87, W87, st87⟩ := stS X83 hx hZ e83 Ar87 (j := (0 : Int32)) hin87 (g := (mkF m 21 #[vi p1, vi p2, vi p3, vi p4, vi (3 : Int32), vr b83, .unset] [(.int (p2.toInt16.toInt32)), (.int (0 : Int32)), (.ref b83)])) rfl rfl (hb hby at_21)
    rw [own_nar_short] at W87
    have V87 : Arv Z h87 b83 k83 .short (3 : Int32) [(.int (p2.toInt16.toInt32)), (.int (0 : Int32)), (.int (0 : Int32))] (.int (0 : Int32)) := Arv.set Ar87 q87 Sz87 Nn87 Hs87 G87 (fits_nar_short _) W87 0 rfl (Nat.le_of_ble_eq_true rfl)
    have Z88 : n0 ≤ h87.size := Nat.le_trans Z84 (Keep.of_wr W87).1
    have N87 := Fr.snoc X87 N0 g_b83
    have go89 : Go p e below s₁ F0 T87 (mkF m 22 #[vi p1, vi p2, vi p3, vi p4, vi (3 : Int32), vr b83, .unset] []) := fun t k => go86 t (st87 t k)
    have go90 : Go p e below s₁ F0 T87 (mkF m 33 #[vi p1, vi p2, vi p3, vi p4, vi (3 : Int32), vr b83, .unset] [(.int (p3.toInt16.toInt32)), (.int (1 : Int32)), (.ref b83)]) := by
      intro t kt
      refine go89 t ?_
      refine o_iload X87 hx (hb hby at_22) rfl ?_
      refine o_iconst X87 hx (hb hby at_24) (v := 1) rfl ?_
      refine o_icmpNo X87 hx (hb hby at_25) (tlt (by decide : (1 : Int32) < (3 : Int32))).2.2.2 ?_
      refine o_aload X87 hx (hb hby at_28) rfl rfl ?_
      refine o_iconst X87 hx (hb hby at_30) (v := 1) rfl ?_
      refine o_iloadN X87 hx (hb hby at_31) rfl ?_
      refine o_i2s X87 hx (hb hby at_32) ?_
      exact kt
    obtain ⟨cl91, Ar91, q91, Sz91, Nn91, Hs91, G91⟩ := id V87
    have hin91 : ¬ ((1 : Int32) < 0 ∨ cl91.slots.size ≤ ((1 : Int32)).toNatClampNeg) := inb_of Sz91 ⟨by decide, by decide⟩
    obtain ⟨T91, h91, X91, e91, W91, st91⟩ := stS X87 hx hZ e87 Ar91 (j := (1 : Int32)) hin91 (g := (mkF m 33 #[vi p1, vi p2, vi p3, vi p4, vi (3 : Int32), vr b83, .unset] [(.int (p3.toInt16.toInt32)), (.int (1 : Int32)), (.ref b83)])) rfl rfl (hb hby at_33)
    rw [own_nar_short] at W91
    have V91 : Arv Z h91 b83 k83 .short (3 : Int32) [(.int (p2.toInt16.toInt32)), (.int (p3.toInt16.toInt32)), (.int (0 : Int32))] (.int (0 : Int32)) := Arv.set Ar91 q91 Sz91 Nn91 Hs91 G91 (fits_nar_short _) W91 1 rfl (Nat.le_of_ble_eq_true rfl)
    have Z92 : n0 ≤ h91.size := Nat.le_trans Z88 (Keep.of_wr W91).1
    have N91 := Fr.snoc X91 N87 g_b83
    have go93 : Go p e below s₁ F0 T91 (mkF m 34 #[vi p1, vi p2, vi p3, vi p4, vi (3 : Int32), vr b83, .unset] []) := fun t k => go90 t (st91 t k)
    have go94 : Go p e below s₁ F0 T91 (mkF m 45 #[vi p1, vi p2, vi p3, vi p4, vi (3 : Int32), vr b83, .unset] [(.int (p4.toInt16.toInt32)), (.int (2 : Int32)), (.ref b83)]) := by
      intro t kt
      refine go93 t ?_
      refine o_iload X91 hx (hb hby at_34) rfl ?_
      refine o_iconst X91 hx (hb hby at_36) (v := 2) rfl ?_
      refine o_icmpNo X91 hx (hb hby at_37) (tlt (by decide : (2 : Int32) < (3 : Int32))).2.2.2 ?_
      refine o_aload X91 hx (hb hby at_40) rfl rfl ?_
      refine o_iconst X91 hx (hb hby at_42) (v := 2) rfl ?_
      refine o_iloadN X91 hx (hb hby at_43) rfl ?_
      refine o_i2s X91 hx (hb hby at_44) ?_
      exact kt
    obtain ⟨cl95, Ar95, q95, Sz95, Nn95, Hs95, G95⟩ := id V91
    have hin95 : ¬ ((2 : Int32) < 0 ∨ cl95.slots.size ≤ ((2 : Int32)).toNatClampNeg) := inb_of Sz95 ⟨by decide, by decide⟩
    obtain ⟨T95, h95, X95, e95, W95, st95⟩ := stS X91 hx hZ e91 Ar95 (j := (2 : Int32)) hin95 (g := (mkF m 45 #[vi p1, vi p2, vi p3, vi p4, vi (3 : Int32), vr b83, .unset] [(.int (p4.toInt16.toInt32)), (.int (2 : Int32)), (.ref b83)])) rfl rfl (hb hby at_45)
    rw [own_nar_short] at W95
    have V95 : Arv Z h95 b83 k83 .short (3 : Int32) [(.int (p2.toInt16.toInt32)), (.int (p3.toInt16.toInt32)), (.int (p4.toInt16.toInt32))] (.int (0 : Int32)) := Arv.set Ar95 q95 Sz95 Nn95 Hs95 G95 (fits_nar_short _) W95 2 rfl (Nat.le_of_ble_eq_true rfl)
    have Z96 : n0 ≤ h95.size := Nat.le_trans Z92 (Keep.of_wr W95).1
    have N95 := Fr.snoc X95 N91 g_b83
    have go97 : Go p e below s₁ F0 T95 (mkF m 46 #[vi p1, vi p2, vi p3, vi p4, vi (3 : Int32), vr b83, .unset] []) := fun t k => go94 t (st95 t k)
    have go98 : Go p e below s₁ F0 T95 (mkF m 48 #[vi p1, vi p2, vi p3, vi p4, vi (3 : Int32), vr b83, .unset] [(.ref b83)]) := by
      intro t kt
      refine go97 t ?_
      refine o_aload X95 hx (hb hby at_46) rfl rfl ?_
      exact kt
    obtain ⟨_, _, ⟨T99, L99, k99, n99⟩, -, X99, ⟨Lc99, hQ99, l99, y99, z99⟩, st99⟩ := Jvm.LawKit.callS X95 hx (y := y_1) hown (mvT hZ (own_w hw 1 rfl)) (mvT hZ (own_w hw 2 rfl)) (mvT hZ (own_w hw 3 rfl)) (mvT hZ (own_w hw 4 rfl)) (by decide) (backOf (W := 0) (rm1_3 l Z a0 hw [] b83 k83 (p2.toInt16.toInt32) (p3.toInt16.toInt32) (p4.toInt16.toInt32) h95 n0 Z96 V95) hZ (own_w hw 4 rfl) (own_w hw 3 rfl) (by decide) (by decide)) (g := (mkF m 48 #[vi p1, vi p2, vi p3, vi p4, vi (3 : Int32), vr b83, .unset] [(.ref b83)])) rfl (by rw [hml]; rfl) (argsL := [(.ref b83)]) (rest := []) (lenOf pd0_0 rfl) rfl (by show 2 * 0 + _ ≤ _; exact Nat.le_of_eq rfl) (hb hby at_48) (fun _ _ => ⟨rfl, e95, (by decide : 1 + 1 ≤ _), (by decide : 3 + 6 ≤ _)⟩)
    dsimp only [Pt.U, Pt.locs, Pt.cells, Pt.slots] at X99 l99 y99 z99 st99 hQ99
    subst l99 y99 z99
    obtain ⟨b_99, kb_99, rfl, Nq99, Kc99, hb_99, V_99⟩ := hQ99
    have N99 := Fr.app N95 Nq99
    have ne100 : b83 ≠ b_99 := Nat.ne_of_lt (Nat.lt_of_lt_of_le V95.lt hb_99)
    have g_b_99 : n0 ≤ b_99 := Nat.le_trans Z96 hb_99
    have Z101 : n0 ≤ T99.heap.size := Nat.le_trans Z96 Kc99.1
    have go102 : Go p e below s₁ F0 T99 (mkF m 51 #[vi p1, vi p2, vi p3, vi p4, vi (3 : Int32), vr b83, .unset] [(.ref b_99)]) := fun t k => go98 t (st99 t k)
    have go103 : Go p e below s₁ F0 T99 (mkF m 60 #[vi p1, vi p2, vi p3, vi p4, vi (3 : Int32), vr b83, vr b_99] [(.ref b_99)]) := by
      intro t kt
      refine go102 t ?_
      refine o_astore X99 hx (hb hby at_51) rfl (L' := #[vi p1, vi p2, vi p3, vi p4, vi (3 : Int32), vr b83, vr b_99]) rfl ?_
      refine o_aload X99 hx (hb hby at_53) rfl rfl ?_
      refine o_ifnullNo X99 hx (hb hby at_55) ?_
      refine o_aload X99 hx (hb hby at_58) rfl rfl ?_
      exact kt
    obtain ⟨cl104, Ar104, -, Sz104, Nn104, -, -⟩ := id V_99
    have go105 : Go p e below s₁ F0 T99 (mkF m 77 #[vi p1, vi p2, vi p3, vi p4, vi (3 : Int32), vr b83, vr b_99] [(.int (p2.toInt16.toInt32)), (.int (3 : Int32)), (.int (0 : Int32)), (.ref b_99)]) := by
      intro t kt
      refine go103 t ?_
      refine o_len X99 hx hZ rfl Ar104 Sz104 Nn104 (hb hby at_60) ?_
      refine o_iconst X99 hx (hb hby at_61) (v := 2) rfl ?_
      refine o_iload X99 hx (hb hby at_62) rfl ?_
      refine o_imulE X99 hx (hb hby at_64) (v := 6) rfl ?_
      refine o_icmpYes X99 hx (hb hby at_65) (pc' := 70) rfl (by decide) (teq (by decide : (6 : Int32) = (6 : Int32))).1 ?_
      refine o_aload X99 hx (hb hby at_70) rfl rfl ?_
      refine o_iconst X99 hx (hb hby at_72) (v := 0) rfl ?_
      refine o_iload X99 hx (hb hby at_73) rfl ?_
      refine o_iloadN X99 hx (hb hby at_75) rfl ?_
      refine o_i2s X99 hx (hb hby at_76) ?_
      exact kt
    obtain ⟨_, _, ⟨T106, L106, k106, n106⟩, -, X106, ⟨Lc106, hQ106, l106, y106, z106⟩, st106⟩ := Jvm.LawKit.callS X99 hx (y := y_2) hown (mvT hZ (own_w hw 6 rfl)) (mvT hZ (own_w hw 7 rfl)) (mvT hZ (own_w hw 8 rfl)) (mvT hZ (own_w hw 9 rfl)) (by decide) (backOf (W := 0) (rm2_3_0 l Z a0 hw [] b_99 (p2.toInt16.toInt32) kb_99 ((p2.toInt16.toInt32).toInt8.toInt32) (((p2.toInt16.toInt32) >>> ((8 : Int32) &&& 31)).toInt8.toInt32) ((p3.toInt16.toInt32).toInt8.toInt32) (((p3.toInt16.toInt32) >>> ((8 : Int32) &&& 31)).toInt8.toInt32) ((p4.toInt16.toInt32).toInt8.toInt32) (((p4.toInt16.toInt32) >>> ((8 : Int32) &&& 31)).toInt8.toInt32) (T99.heap) n0 Z101 V_99 (own_pair _)) hZ (own_w hw 9 rfl) (own_w hw 8 rfl) (by decide) (by decide)) (g := (mkF m 77 #[vi p1, vi p2, vi p3, vi p4, vi (3 : Int32), vr b83, vr b_99] [(.int (p2.toInt16.toInt32)), (.int (3 : Int32)), (.int (0 : Int32)), (.ref b_99)])) rfl (by rw [hml]; rfl) (argsL := [(.ref b_99), (.int (0 : Int32)), (.int (3 : Int32)), (.int (p2.toInt16.toInt32))]) (rest := []) (lenOf pd0_1 rfl) rfl (by show 2 * 0 + _ ≤ _; exact Nat.le_of_eq rfl) (hb hby at_77) (fun _ _ => ⟨rfl, rfl, (by decide : 2 + 0 ≤ _), (by decide : 9 + 0 ≤ _)⟩)
    dsimp only [Pt.U, Pt.locs, Pt.cells, Pt.slots] at X106 l106 y106 z106 st106 hQ106
    subst l106 y106 z106
    obtain ⟨rfl, Nq106, eh106⟩ := hQ106
    have N106 := Fr.app N99 Nq106
    have go107 : Go p e below s₁ F0 T106 (mkF m 80 #[vi p1, vi p2, vi p3, vi p4, vi (3 : Int32), vr b83, vr b_99] [(.int (1 : Int32))]) := fun t k => go105 t (st106 t k)
    have go108 : Go p e below s₁ F0 T106 (mkF m 90 #[vi p1, vi p2, vi p3, vi p4, vi (3 : Int32), vr b83, vr b_99] [(.int (p3.toInt16.toInt32)), (.int (3 : Int32)), (.int (1 : Int32)), (.ref b_99)]) := by
      intro t kt
      refine go107 t ?_
      refine o_ifNo X106 hx (hb hby at_80) ((if0 _ _).trans (feq (by decide : ¬ ((1 : Int32) = (0 : Int32)))).1) ?_
      refine o_aload X106 hx (hb hby at_83) rfl rfl ?_
      refine o_iconst X106 hx (hb hby at_85) (v := 1) rfl ?_
      refine o_iload X106 hx (hb hby at_86) rfl ?_
      refine o_iloadN X106 hx (hb hby at_88) rfl ?_
      refine o_i2s X106 hx (hb hby at_89) ?_
      exact kt
    obtain ⟨_, _, ⟨T109, L109, k109, n109⟩, -, X109, ⟨Lc109, hQ109, l109, y109, z109⟩, st109⟩ := Jvm.LawKit.callS X106 hx (y := y_2) hown (mvT hZ (own_w hw 6 rfl)) (mvT hZ (own_w hw 7 rfl)) (mvT hZ (own_w hw 8 rfl)) (mvT hZ (own_w hw 9 rfl)) (by decide) (backOf (W := 0) (rm2_3_1 l Z a0 hw [] b_99 (p3.toInt16.toInt32) kb_99 ((p2.toInt16.toInt32).toInt8.toInt32) (((p2.toInt16.toInt32) >>> ((8 : Int32) &&& 31)).toInt8.toInt32) ((p3.toInt16.toInt32).toInt8.toInt32) (((p3.toInt16.toInt32) >>> ((8 : Int32) &&& 31)).toInt8.toInt32) ((p4.toInt16.toInt32).toInt8.toInt32) (((p4.toInt16.toInt32) >>> ((8 : Int32) &&& 31)).toInt8.toInt32) (T99.heap) n0 Z101 V_99 (own_pair _)) hZ (own_w hw 9 rfl) (own_w hw 8 rfl) (by decide) (by decide)) (g := (mkF m 90 #[vi p1, vi p2, vi p3, vi p4, vi (3 : Int32), vr b83, vr b_99] [(.int (p3.toInt16.toInt32)), (.int (3 : Int32)), (.int (1 : Int32)), (.ref b_99)])) rfl (by rw [hml]; rfl) (argsL := [(.ref b_99), (.int (1 : Int32)), (.int (3 : Int32)), (.int (p3.toInt16.toInt32))]) (rest := []) (lenOf pd0_1 rfl) rfl (by show 2 * 0 + _ ≤ _; exact Nat.le_of_eq rfl) (hb hby at_90) (fun _ _ => ⟨rfl, eh106, (by decide : 2 + 0 ≤ _), (by decide : 9 + 0 ≤ _)⟩)
    dsimp only [Pt.U, Pt.locs, Pt.cells, Pt.slots] at X109 l109 y109 z109 st109 hQ109
    subst l109 y109 z109
    obtain ⟨rfl, Nq109, eh109⟩ := hQ109
    have N109 := Fr.app N106 Nq109
    have go110 : Go p e below s₁ F0 T109 (mkF m 93 #[vi p1, vi p2, vi p3, vi p4, vi (3 : Int32), vr b83, vr b_99] [(.int (1 : Int32))]) := fun t k => go108 t (st109 t k)
    have go111 : Go p e below s₁ F0 T109 (mkF m 103 #[vi p1, vi p2, vi p3, vi p4, vi (3 : Int32), vr b83, vr b_99] [(.int (p4.toInt16.toInt32)), (.int (3 : Int32)), (.int (2 : Int32)), (.ref b_99)]) := by
      intro t kt
      refine go110 t ?_
      refine o_ifNo X109 hx (hb hby at_93) ((if0 _ _).trans (feq (by decide : ¬ ((1 : Int32) = (0 : Int32)))).1) ?_
      refine o_aload X109 hx (hb hby at_96) rfl rfl ?_
      refine o_iconst X109 hx (hb hby at_98) (v := 2) rfl ?_
      refine o_iload X109 hx (hb hby at_99) rfl ?_
      refine o_iloadN X109 hx (hb hby at_101) rfl ?_
      refine o_i2s X109 hx (hb hby at_102) ?_
      exact kt
    obtain ⟨_, _, ⟨T112, L112, k112, n112⟩, -, X112, ⟨Lc112, hQ112, l112, y112, z112⟩, st112⟩ := Jvm.LawKit.callS X109 hx (y := y_2) hown (mvT hZ (own_w hw 6 rfl)) (mvT hZ (own_w hw 7 rfl)) (mvT hZ (own_w hw 8 rfl)) (mvT hZ (own_w hw 9 rfl)) (by decide) (backOf (W := 0) (rm2_3_2 l Z a0 hw [] b_99 (p4.toInt16.toInt32) kb_99 ((p2.toInt16.toInt32).toInt8.toInt32) (((p2.toInt16.toInt32) >>> ((8 : Int32) &&& 31)).toInt8.toInt32) ((p3.toInt16.toInt32).toInt8.toInt32) (((p3.toInt16.toInt32) >>> ((8 : Int32) &&& 31)).toInt8.toInt32) ((p4.toInt16.toInt32).toInt8.toInt32) (((p4.toInt16.toInt32) >>> ((8 : Int32) &&& 31)).toInt8.toInt32) (T99.heap) n0 Z101 V_99 (own_pair _)) hZ (own_w hw 9 rfl) (own_w hw 8 rfl) (by decide) (by decide)) (g := (mkF m 103 #[vi p1, vi p2, vi p3, vi p4, vi (3 : Int32), vr b83, vr b_99] [(.int (p4.toInt16.toInt32)), (.int (3 : Int32)), (.int (2 : Int32)), (.ref b_99)])) rfl (by rw [hml]; rfl) (argsL := [(.ref b_99), (.int (2 : Int32)), (.int (3 : Int32)), (.int (p4.toInt16.toInt32))]) (rest := []) (lenOf pd0_1 rfl) rfl (by show 2 * 0 + _ ≤ _; exact Nat.le_of_eq rfl) (hb hby at_103) (fun _ _ => ⟨rfl, eh109, (by decide : 2 + 0 ≤ _), (by decide : 9 + 0 ≤ _)⟩)
    dsimp only [Pt.U, Pt.locs, Pt.cells, Pt.slots] at X112 l112 y112 z112 st112 hQ112
    subst l112 y112 z112
    obtain ⟨rfl, Nq112, eh112⟩ := hQ112
    have N112 := Fr.app N109 Nq112
    have go113 : Go p e below s₁ F0 T112 (mkF m 106 #[vi p1, vi p2, vi p3, vi p4, vi (3 : Int32), vr b83, vr b_99] [(.int (1 : Int32))]) := fun t k => go111 t (st112 t k)
    have go114 : Go p e below s₁ F0 T112 (mkF m 114 #[vi p1, vi p2, vi p3, vi p4, vi (3 : Int32), vr b83, vr b_99] [(.int (1 : Int32))]) := by
      intro t kt
      refine go113 t ?_
      refine o_ifNo X112 hx (hb hby at_106) ((if0 _ _).trans (feq (by decide : ¬ ((1 : Int32) = (0 : Int32)))).1) ?_
      refine o_iconst X112 hx (hb hby at_109) (v := 1) rfl ?_
      refine o_goto X112 hx (hb hby at_110) (pc' := 114) rfl (by decide) ?_
      exact kt
    obtain ⟨fs, hr, hrun, hended, hW, hsame⟩ := X112.leave (v := some (.int (1 : Int32))) (fun h => by rw [Bd.returns] at h; cases h)
    refine ⟨_, _, pre0 _ (go114 _ ?_), hrun, hended, _, _, rfl, ?_, ⟨_, rfl⟩, hW, hsame.mono (by decide) (by decide)⟩
    · skip
      exact retN X112 hx (t := .boolean) Bd.returns (by simp) (hb hby at_114) hr
    · show Q0 Z p1 p2 p3 p4 h0 n0 _ T112.heap _
      rw [eh112]
      exact ⟨rfl, N112⟩

set_option maxRecDepth 65536 in
set_option maxHeartbeats 40000000 in
theorem comes_1 {Post : Tables → Env → Array Value → State → Outcome → State → Prop} (hpost : ∀ tb e args s v u, (limb_1_1.after args s (.returned v) u = true ∧ limb_1_2.after args s (.returned v) u = true ∧ True) → FrameEnd s (.returned v) u (Jvm.fieldLocs frame_1_writes args s ++ Jvm.arrayLocs frame_1_arrays args s ++ Jvm.staticLocs frame_1_statics s) 16 128 → Post tb e args s (.returned v) u) :
    ArmFor flags0 classFile x code maxLocals ret World_1 tables_1 room_1 Calls_1 rest_1 Pre_1 Post := by
  intro l hfl _ _ p e ha hc hk s m args below hf hA hF happ hP
  obtain ⟨hcalls, hrest, hpre⟩ := hP
  obtain ⟨-, -, -, hnamed, -, -, -, hat⟩ := (Spec.applies_iff hf).mp happ
  obtain ⟨hg, hn⟩ := and_e (Cond.before_iff.mp (show (Jvm.Cond.and given_1 narrow_1).before args s = true from hpre))
  obtain ⟨g1, g2⟩ := and_e hg
  obtain ⟨g3, g4⟩ := and_e g2
  obtain ⟨g5, g6⟩ := and_e g4
  obtain ⟨g7, g8⟩ := and_e g6
  obtain ⟨w0, w1, w2, w3, rfl⟩ : ∃ w0 w1 w2 w3 : Value, args = #[w0, w1, w2, w3] := by
    have hs : args.size = 4 := by simpa [Cond.value, given_1] using g1
    obtain ⟨L⟩ := args
    match L, hs with
    | [w0, w1, w2, w3], _ => exact ⟨w0, w1, w2, w3, rfl⟩
  have hw := fun d (hd : d ∈ tables_1) => atoms_spec (ws := Jvm.Cond.code x code maxLocals ret :: tables_1) hat d (List.mem_cons_of_mem _ hd)
  have hfit : Fit s := fun {y c} hc i hi => by
    obtain ⟨ha, rfl⟩ := Array.getElem?_eq_some_iff.mp hc
    have q := List.all_eq_true.mp ((Array.all_eq_true_iff_forall_mem.mp hF) _ (Array.getElem_mem ha)) i (List.mem_range.mpr hi)
    simpa [Array.getElem?_eq_getElem hi] using q
  obtain ⟨i0, ei0⟩ := is_v g3
  obtain rfl : w0 = (.int i0) := Option.some.inj ei0
  obtain ⟨i1, ei1⟩ := is_v g5
  obtain rfl : w1 = (.int i1) := Option.some.inj ei1
  obtain ⟨i2, ei2⟩ := is_v g7
  obtain rfl : w2 = (.int i2) := Option.some.inj ei2
  obtain ⟨i3, ei3⟩ := is_v g8
  obtain rfl : w3 = (.int i3) := Option.some.inj ei3
  obtain ⟨n, o, h1, h2, h3, _, L, rfl, ⟨rfl, N⟩, hq⟩ := rm0 l s _ hw tables_1 i0 i1 i2 i3  s.heap s.heap.size (Nat.le_refl _)  p e ha hc hk s m _ below hf ((Spec.applies_iff_loose hf).mp happ).1 ⟨rfl, State.Warmed39.refl s, rfl⟩ trivial
  refine ⟨n, _, h1, h2, h3, hpost _ _ _ _ _ _ ⟨Cond.after_iff.mpr rfl, Cond.after_iff.mpr (eq_i res_at (Term.int_eval (1)) rfl), trivial⟩ ⟨hq.1, hq.2.1, (hq.2.2.sift fun y hy => Or.inr (N y hy)).mono (by decide) (by decide)⟩⟩
theorem main_1_1 : Claimed_1_1 := comes_1 fun _ _ _ _ _ _ h hF => ⟨h.1, hF⟩
theorem main_1_2 : Claimed_1_2 := comes_1 fun _ _ _ _ _ _ h hF => ⟨h.2.1, hF⟩
end Jvm.Pilot.@@N@@
namespace Jvm.Pilot.@@N@@
open Jvm Jvm.ClassFile Sem Op Lib Jvm.Free Jvm.Stand Jvm.Pilot.@@N@@.Jvm.D
/-! MADE BY PROGRAM (witnessworld.py) out of the Statement's table words and the real class files: 11 classes; the members and pool entries that the words name. The judged class is class 1, her method 1. -/
namespace start1
open Jvm.ClassFile
def u (s : String) : CpInfo := .utf8 (stringToUtf16 s)
/-- a pool by its gaps: so many unusable entries, then the entry; so many at the end -/
def gap : Nat → List CpInfo → List CpInfo
  | 0, r => r
  | n + 1, r => .unusable :: gap n r
def poolList (es : List (Nat × CpInfo)) (last : Nat) : List CpInfo := es.foldr (fun e r => gap e.1 (e.2 :: r)) (gap last [])
def pool (es : List (Nat × CpInfo)) (last : Nat) : Array CpInfo := ⟨poolList es last⟩
def fileOf (pool : Array CpInfo) (this : Nat) (attrs : Array Attribute := #[]) (ms : Array MethodInfo := #[]) (fl : Nat := 33) (sup : Nat := 0) (ifs : Array Nat := #[]) (fds : Array FieldInfo := #[]) : ClassFile where
  minorVersion := 0
  majorVersion := 65
  constantPool := pool
  accessFlags := fl
  thisClass := this
  superClass := sup
  interfaces := ifs
  fields := fds
  methods := ms
  attributes := attrs
def plain (name : String) (sup : Option ClassId) : Class where
  name := name
  kind := .ordinary
  loader := none
  accessFlags := 33
  super := sup
  interfaces := #[]
  cf := none
  fields := #[]
  methods := #[]
  instanceTypes := #[]
  staticTypes := #[]
  resolved := #[]
  callSites := []
  init := .initialized
  statics := none
  mirror := none

def pool0 : Array CpInfo := pool [(5, u "<init>"), (0, u "()V"), (1, .class_ 10), (1, u "java/lang/Object")] 113

def k0m0 : Method := { name := "<init>", desc := "()V", sig := { parameters := [], returnType := none }, accessFlags := 1, code := none }
/-- java/lang/Object -/
def k0 : Class := { plain "java/lang/Object" none with
  accessFlags := 33
  interfaces := #[]
  cf := some (fileOf pool0 8 #[] #[{ accessFlags := 1, nameIndex := 5, descriptorIndex := 6, attributes := #[] }] 33 0 #[] #[])
  fields := #[]
  methods := #[k0m0]
  instanceTypes := #[]
  staticTypes := #[]
  resolved := Array.replicate 124 none
  statics := none }

def pool1 : Array CpInfo := pool [(2, .class_ 4), (1, u "java/lang/Object"), (0, u "<init>"), (0, u "()V"), (0, .methodref 8 9), (0, .class_ 10), (0, .nameAndType 11 12), (0, u "com/example/glottis/glottis/audio/Audio"), (0, u "bytes"), (0, u "([S)[B"), (0, .methodref 14 15), (0, .class_ 16), (0, .nameAndType 17 18), (0, u "com/example/glottis/glottis/audio/AudioBytesPinLaw"), (0, u "pair"), (0, u "([BIIS)Z"), (0, .integer 65535), (2, u "law"), (0, u "(IIII)Z")] 7

def k1m0 : Method := { name := "<init>", desc := "()V", sig := { parameters := [], returnType := none }, accessFlags := 2, code := none }
def k1c1 : Code := { maxStack := 4, maxLocals := 7, code := code, exceptionTable := #[], attributes := #[] }
def k1m1 : Method := { name := "law", desc := "(IIII)Z", sig := { parameters := [.int, .int, .int, .int], returnType := some .boolean }, accessFlags := 9, code := some k1c1 }
def k1c2 : Code := { maxStack := 3, maxLocals := 6, code := method_3_code, exceptionTable := #[], attributes := #[] }
def k1m2 : Method := { name := "pair", desc := "([BIIS)Z", sig := { parameters := [(.array .byte), .int, .int, .short], returnType := some .boolean }, accessFlags := 10, code := some k1c2 }
/-- com/example/glottis/glottis/audio/AudioBytesPinLaw -/
def k1 : Class := { plain "com/example/glottis/glottis/audio/AudioBytesPinLaw" (some 0) with
  accessFlags := 49
  interfaces := #[]
  cf := some (fileOf pool1 14 #[] #[{ accessFlags := 2, nameIndex := 5, descriptorIndex := 6, attributes := #[] }, { accessFlags := 9, nameIndex := 22, descriptorIndex := 23, attributes := #[] }, { accessFlags := 10, nameIndex := 17, descriptorIndex := 18, attributes := #[] }] 49 2 #[] #[])
  fields := #[]
  methods := #[k1m0, k1m1, k1m2]
  instanceTypes := #[]
  staticTypes := #[]
  resolved := Array.replicate 31 none
  statics := none }

def pool2 : Array CpInfo := pool [(2, .class_ 4), (1, u "java/lang/Object"), (0, u "<init>"), (0, u "()V"), (2, .class_ 10), (0, u "com/example/glottis/glottis/audio/Audio"), (29, .class_ 41), (0, u "com/example/glottis/glottis/audio/Audio$FilteredInput"), (13, .class_ 56), (0, u "com/example/glottis/glottis/audio/Audio$Gain"), (7, .methodref 9 65), (0, .nameAndType 66 67), (0, u "put"), (0, u "([BIS)V"), (14, u "SAMPLE_RATES"), (0, u "Ljava/util/List;"), (2, u "BITS"), (0, u "I"), (11, u "bytes"), (0, u "([S)[B")] 9

def k2m0 : Method := { name := "<init>", desc := "()V", sig := { parameters := [], returnType := none }, accessFlags := 2, code := none }
def k2c1 : Code := { maxStack := 4, maxLocals := 3, code := prog_1_method_6_code, exceptionTable := #[], attributes := #[] }
def k2m1 : Method := { name := "put", desc := "([BIS)V", sig := { parameters := [(.array .byte), .int, .short], returnType := none }, accessFlags := 8, code := some k2c1 }
def k2c2 : Code := { maxStack := 4, maxLocals := 3, code := prog_1_method_7_code, exceptionTable := #[], attributes := #[] }
def k2m2 : Method := { name := "bytes", desc := "([S)[B", sig := { parameters := [(.array .short)], returnType := some (.array .byte) }, accessFlags := 9, code := some k2c2 }
/-- com/example/glottis/glottis/audio/Audio -/
def k2 : Class := { plain "com/example/glottis/glottis/audio/Audio" (some 0) with
  accessFlags := 33
  interfaces := #[]
  cf := some (fileOf pool2 9 #[.nestMembers #[40, 55]] #[{ accessFlags := 2, nameIndex := 5, descriptorIndex := 6, attributes := #[] }, { accessFlags := 8, nameIndex := 66, descriptorIndex := 67, attributes := #[] }, { accessFlags := 9, nameIndex := 99, descriptorIndex := 100, attributes := #[] }] 33 2 #[] #[{ accessFlags := 25, nameIndex := 82, descriptorIndex := 83, attributes := #[] }, { accessFlags := 26, nameIndex := 86, descriptorIndex := 87, attributes := #[] }])
  fields := #[{ name := "SAMPLE_RATES", type := (.object "java/util/List"), accessFlags := 25, slot := 0, constantValue := 0 }, { name := "BITS", type := .int, accessFlags := 26, slot := 1, constantValue := 0 }]
  methods := #[k2m0, k2m1, k2m2]
  instanceTypes := #[]
  staticTypes := #[(.object "java/util/List"), .int]
  resolved := Array.replicate 110 none
  statics := none }

def pool3 : Array CpInfo := pool [(1, u "java/lang/Cloneable"), (0, .class_ 1), (0, u "java/lang/Object"), (0, .class_ 3)] 3

/-- java/lang/Cloneable -/
def k3 : Class := { plain "java/lang/Cloneable" (some 0) with
  accessFlags := 1537
  interfaces := #[]
  cf := some (fileOf pool3 2 #[] #[] 1537 4 #[] #[])
  fields := #[]
  methods := #[]
  instanceTypes := #[]
  staticTypes := #[]
  resolved := Array.replicate 8 none
  statics := none }

def pool4 : Array CpInfo := pool [(1, u "java/io/Serializable"), (0, .class_ 1), (0, u "java/lang/Object"), (0, .class_ 3)] 3

/-- java/io/Serializable -/
def k4 : Class := { plain "java/io/Serializable" (some 0) with
  accessFlags := 1537
  interfaces := #[]
  cf := some (fileOf pool4 2 #[] #[] 1537 4 #[] #[])
  fields := #[]
  methods := #[]
  instanceTypes := #[]
  staticTypes := #[]
  resolved := Array.replicate 8 none
  statics := none }

/-- the primitive byte -/
def k5 : Class := { plain "byte" none with kind := .primitive 'B', accessFlags := 0x411 }
/-- [B -/
def k6 : Class := { plain "[B" (some 0) with kind := .array 5 .byte, interfaces := #[3, 4], accessFlags := 1041 }

/-- the primitive int -/
def k7 : Class := { plain "int" none with kind := .primitive 'I', accessFlags := 0x411 }
/-- [I -/
def k8 : Class := { plain "[I" (some 0) with kind := .array 7 .int, interfaces := #[3, 4], accessFlags := 1041 }

/-- the primitive short -/
def k9 : Class := { plain "short" none with kind := .primitive 'S', accessFlags := 0x411 }
/-- [S -/
def k10 : Class := { plain "[S" (some 0) with kind := .array 9 .short, interfaces := #[3, 4], accessFlags := 1041 }

def heap : Heap := #[]
def classes : Array Class := #[k0, k1, k2, k3, k4, k5, k6, k7, k8, k9, k10]
def interned : List (Array UInt16 × Addr) := []
def slotsUsed : Nat := 0
def theMethod : MethodId := ⟨1, 1⟩
def args0 : Array Value := #[.int 5, .int 5, .int 5, .int 5]
def aboutOver (below : List Frame) : State where
  vm := { classes := classes, interned := interned.toArray }
  heap := heap
  slotsUsed := slotsUsed
  threads := #[{ frames := .invoking theMethod args0 :: below }]
def below0 : List Frame := [.native { method := ⟨0, 0⟩, args := #[] }]
def about1 : State := aboutOver below0
def p0 : Program := .bare "" "" ""
def e0 : Env := launch0.env 0 0 0
theorem w_frames : about1.frames = Frame.invoking theMethod args0 :: below0 := rfl
set_option maxRecDepth 65536 in
theorem w_args : argsFit about1.vm theMethod args0 = true := by decide +kernel
set_option maxRecDepth 65536 in
theorem w_heap : heapFits about1 = true := by decide +kernel
set_option maxRecDepth 65536 in
theorem w_runnable : about1.curStatus? = some .runnable := by decide +kernel
set_option maxRecDepth 65536 in
theorem w_alone : about1.alone = true := by decide +kernel
set_option maxRecDepth 65536 in
theorem w_named : about1.methodNamed? x = some theMethod := by decide +kernel
set_option maxRecDepth 65536 in
theorem w_hears : about1.hears theMethod below0 = true := by decide +kernel
set_option maxRecDepth 65536 in
theorem w_ripe : about1.ripe theMethod args0 below0 = true := by decide +kernel
theorem w_running : about1.status = .running := rfl
set_option maxRecDepth 65536 in
theorem w_room : about1.hasRoom e0.platform room_1 = true :=
  launch0.hasRoom_least _ room_1 (by decide +kernel) (by decide +kernel) (by decide +kernel) (by decide +kernel) (by decide +kernel) (by decide +kernel)
theorem allAtoms_all (ts : List Jvm.Cond) (a : Array Jvm.Value) (st : Jvm.State) : (allAtoms ts).before a st = ts.all (fun c => c.before a st) := by
  induction ts with
  | nil => rfl
  | cons c t ih =>
    show (Jvm.Cond.and c (allAtoms t)).before a st = _
    rw [Jvm.Cond.before_and, ih, List.all_cons]
def words1 : List Jvm.Cond := Jvm.Cond.code x code maxLocals ret :: tables_1
/-- a 'code' word, met by the world's own term for the bytes: nothing is compared byte by byte -/
theorem code_word {y : MethodName} {bytes : ByteArray} {mx : Nat} {rt : Option FieldType} {a : Array Value} {s : State} {m : MethodId} {meth : Method} {c : Code} (h1 : s.methodNamed? y = some m) (h2 : s.vm.method? m = some meth) (h3 : meth.code = some c) (h4 : c.code = bytes)
    (h5 : (c.maxLocals == mx && c.exceptionTable.isEmpty && decide (c.maxStack ≤ mostOperands) && decide (meth.sig.returnType = rt) && !meth.locks && decide (parseMethodDescriptor y.desc = some meth.sig)) = true) : (Jvm.Cond.code y bytes mx rt).before a s = true := by
  simp only [Bool.and_eq_true, beq_iff_eq, Bool.not_eq_true', decide_eq_true_eq] at h5
  obtain ⟨⟨⟨⟨⟨g1, g2⟩, g3⟩, g4⟩, g5⟩, g6⟩ := h5
  simp [Cond.before, Cond.holds, Cond.value, h1, h2, h3, h4, g1, g2, g3, g4, g5, g6]
def isCode : Jvm.Cond → Bool
  | .code _ _ _ _ => true
  | _ => false
theorem all_split {L : List Jvm.Cond} {P : Jvm.Cond → Bool} (h1 : L.all (fun c => isCode c || P c) = true) (h2 : ∀ c ∈ L.filter isCode, P c = true) : L.all P = true := by
  refine List.all_eq_true.mpr fun c hc => ?_
  have h := List.all_eq_true.mp h1 c hc
  rcases Bool.eq_false_or_eq_true (isCode c) with hi | hi
  · exact h2 c (List.mem_filter.mpr ⟨hc, hi⟩)
  · simpa [hi] using h
set_option maxRecDepth 65536 in
theorem w_c0 : (Jvm.Cond.code x code maxLocals ret).before args0 about1 = true := code_word (m := ⟨1, 1⟩) (meth := k1m1) (c := k1c1) (by decide +kernel) rfl rfl rfl (by decide +kernel)
set_option maxRecDepth 65536 in
theorem w_c1 : (Jvm.Cond.code ({ cls := "com/example/glottis/glottis/audio/Audio", name := "bytes", desc := "([S)[B" } : Jvm.MethodName) prog_1_method_7_code (3 : Nat) (Option.some (Jvm.ClassFile.FieldType.array Jvm.ClassFile.FieldType.byte))).before args0 about1 = true := code_word (m := ⟨2, 2⟩) (meth := k2m2) (c := k2c2) (by decide +kernel) rfl rfl rfl (by decide +kernel)
set_option maxRecDepth 65536 in
theorem w_c2 : (Jvm.Cond.code ({ cls := "com/example/glottis/glottis/audio/AudioBytesPinLaw", name := "pair", desc := "([BIIS)Z" } : Jvm.MethodName) method_3_code (6 : Nat) (Option.some Jvm.ClassFile.FieldType.boolean)).before args0 about1 = true := code_word (m := ⟨1, 2⟩) (meth := k1m2) (c := k1c2) (by decide +kernel) rfl rfl rfl (by decide +kernel)
set_option maxRecDepth 65536 in
theorem w_c3 : (Jvm.Cond.code ({ cls := "com/example/glottis/glottis/audio/Audio", name := "put", desc := "([BIS)V" } : Jvm.MethodName) prog_1_method_6_code (3 : Nat) (Option.none : Option Jvm.ClassFile.FieldType)).before args0 about1 = true := code_word (m := ⟨2, 1⟩) (meth := k2m1) (c := k2c1) (by decide +kernel) rfl rfl rfl (by decide +kernel)
def codes1 : List Jvm.Cond := [Jvm.Cond.code x code maxLocals ret, Jvm.Cond.code ({ cls := "com/example/glottis/glottis/audio/Audio", name := "bytes", desc := "([S)[B" } : Jvm.MethodName) prog_1_method_7_code (3 : Nat) (Option.some (Jvm.ClassFile.FieldType.array Jvm.ClassFile.FieldType.byte)), Jvm.Cond.code ({ cls := "com/example/glottis/glottis/audio/AudioBytesPinLaw", name := "pair", desc := "([BIIS)Z" } : Jvm.MethodName) method_3_code (6 : Nat) (Option.some Jvm.ClassFile.FieldType.boolean), Jvm.Cond.code ({ cls := "com/example/glottis/glottis/audio/Audio", name := "put", desc := "([BIS)V" } : Jvm.MethodName) prog_1_method_6_code (3 : Nat) (Option.none : Option Jvm.ClassFile.FieldType)]
set_option maxRecDepth 65536 in
theorem codes_eq : words1.filter isCode = codes1 := rfl
theorem w_codes : ∀ c ∈ words1.filter isCode, c.before args0 about1 = true := by
  rw [codes_eq]
  intro c hc
  simp only [codes1, List.mem_cons, List.not_mem_nil, or_false] at hc
  rcases hc with rfl | rfl | rfl | rfl
  · exact w_c0
  · exact w_c1
  · exact w_c2
  · exact w_c3
set_option maxRecDepth 65536 in
theorem w_t1 : words1.all (fun c => isCode c || c.before args0 about1) = true := by decide +kernel
theorem w_tables : (allAtoms (Jvm.Cond.code x code maxLocals ret :: tables_1)).before args0 about1 = true := by
  rw [allAtoms_all]
  show words1.all (fun c => c.before args0 about1) = true
  refine all_split ?_ w_codes
  rw [w_t1]
set_option maxRecDepth 65536 in
theorem w_case : (Jvm.Cond.and given_1 narrow_1).before args0 about1 = true := by decide +kernel
theorem w_applies : (headSpec (Jvm.Cond.code x code maxLocals ret :: tables_1) room_1).applies x e0.platform about1 = true :=
  (Spec.applies_iff w_frames).mpr ⟨w_running, w_runnable, w_alone, w_named, w_hears, w_ripe, w_room, w_tables⟩
theorem atStart : AtStart classFile x code maxLocals ret World_1 tables_1 room_1 Calls_1 rest_1 Pre_1 launch0 p0 e0 about1 theMethod args0 below0 :=
  ⟨lists_1, trivial, launch0.admits_env _ _ _, launch0.least_env, fairChoices_fair.cas, fairChoices_fair.clock, w_frames, w_args, w_heap, w_applies, trivial, trivial, w_case⟩
end start1
theorem witness_1 : WitnessClaimed_1 := ⟨start1.p0, start1.e0, start1.about1, start1.theMethod, start1.args0, start1.below0, start1.atStart⟩
end Jvm.Pilot.@@N@@
