import JvmDerived
import JvmDerived.Pilot.@@N@@Statement
import JvmDerived.Pilot.@@N@@Code
set_option linter.unusedVariables false
set_option linter.unusedSimpArgs false

namespace Jvm.RoadKit
open Sem ClassFile Op Lib Jvm.Stand Jvm.Free Jvm.LawKit
section New
variable {p : Program} {l : Launch} {e : Env} {R : Room} {s : State} {m : MethodId} {args : Array Value} {below : List Frame} {meth : Method} {c : Code} {T : State} {locs : List Loc} {cells slots : Nat}
theorem retI (X : Stand p l e R s m args below meth c T locs cells slots) (hx : p.tables.exec = Jvm.exec) {pc : Nat} {Ls : Array Slot} {z : Int32} {rest : List Value} (hret : meth.sig.returnType = some .int) (hd : decode c.code pc = .ok (.ireturn, 1)) {fs : List Frame}
    (hl : ∀ (f : JFrame) (acts : List Action), f.method = m → f.locked = none → f.entered = [] → (doReturn e (T.setTop f) acts (some (.int z))).1 = T.setFrames fs) : Steps p.tables e below (T.setTop (mkF m pc Ls (.int z :: rest))) (T.setFrames fs) := by
  have hm' : T.vm.method? m = some meth := X.method'
  have hn : narrow .int (.int z) = .int z := rfl
  show Steps p.tables e below (T.setTop { method := m, pc := pc, locals := Ls, stack := _ :: rest, locked := none }) _
  jvm_step X.here [X.here.top, hx, hd, hm', hret, hn]
  first | (intro acts; rw [hl _ acts rfl rfl rfl]) | rw [hl _ _ rfl rfl rfl]
  exact Steps.refl _
end New
end Jvm.RoadKit
namespace Jvm.Pilot.@@N@@
open Jvm Jvm.ClassFile Sem Op Lib Jvm.Free Jvm.Stand Jvm.LawKit Jvm.RoadKit Bundle Jvm.Pilot.@@N@@.Jvm.D
abbrev y_0 : MethodName := ⟨"com/example/slackline/slackline/replay/Steps", "heapBytes", "(JI)J"⟩
abbrev own_zl (n : Nat) : List Value := List.replicate n (.long (0 : Int64))
abbrev own_zi (n : Nat) : List Value := List.replicate n (.int (0 : Int32))
abbrev own_zr (n : Nat) : List Value := List.replicate n .null
abbrev vi (x : Int32) : Slot := .val (.int x)
abbrev vj (x : Int64) : Slot := .val (.long x)
abbrev vr (x : Addr) : Slot := .val (.ref x)
section Steps
variable {p : Program} {l : Launch} {e : Env} {R : Room} {s : State} {m : MethodId} {args : Array Value} {below : List Frame} {meth : Method} {c : Code} {T : State} {locs : List Loc} {cells slots : Nat} {pc pc' : Nat} {Ls L' : Array Slot} {S : List Value} {t : State} {Z : State} {h : Heap} {a : Addr} {cl : Cell}
abbrev Go (p : Program) (e : Env) (below : List Frame) (T0 : State) (g0 : JFrame) (T : State) (g : JFrame) : Prop := ∀ t, Steps p.tables e below (T.setTop g) t → Steps p.tables e below (T0.setTop g0) t
theorem own_w {Z : State} {a0 : Array Value} (hw : ∀ d ∈ tables_1, d.before a0 Z = true) (k : Nat) {d : Jvm.Cond} (h : tables_1[k]? = some d) : d.before a0 Z = true := hw _ (List.mem_of_getElem? h)
theorem o_iloadN (X : Stand p l e R s m args below meth c T locs cells slots) (hx : p.tables.exec = Jvm.exec) {i : Fin 4} {v : Int32} (hd : decode c.code pc = .ok (.iload_n i, 1)) (hl : Ls[i.val]? = some (.val (.int v))) (k : Steps p.tables e below (T.setTop (mkF m (pc + 1) Ls (.int v :: S))) t) : Steps p.tables e below (T.setTop (mkF m pc Ls (S))) t := XS.iloadN X.here hx rfl hd hl k
theorem o_iload (X : Stand p l e R s m args below meth c T locs cells slots) (hx : p.tables.exec = Jvm.exec) {i : Nat} {v : Int32} (hd : decode c.code pc = .ok (.iload i, 2)) (hl : Ls[i]? = some (.val (.int v))) (k : Steps p.tables e below (T.setTop (mkF m (pc + 2) Ls (.int v :: S))) t) : Steps p.tables e below (T.setTop (mkF m pc Ls (S))) t := XS.iload X.here hx rfl hd hl k
theorem o_lloadN (X : Stand p l e R s m args below meth c T locs cells slots) (hx : p.tables.exec = Jvm.exec) {i : Fin 4} {v : Int64} (hd : decode c.code pc = .ok (.lload_n i, 1)) (hl : Ls[i.val]? = some (.val (.long v))) (k : Steps p.tables e below (T.setTop (mkF m (pc + 1) Ls (.long v :: S))) t) : Steps p.tables e below (T.setTop (mkF m pc Ls (S))) t := XS.lloadN X.here hx rfl hd hl k
theorem o_lload (X : Stand p l e R s m args below meth c T locs cells slots) (hx : p.tables.exec = Jvm.exec) {i : Nat} {v : Int64} (hd : decode c.code pc = .ok (.lload i, 2)) (hl : Ls[i]? = some (.val (.long v))) (k : Steps p.tables e below (T.setTop (mkF m (pc + 2) Ls (.long v :: S))) t) : Steps p.tables e below (T.setTop (mkF m pc Ls (S))) t := XS.lload X.here hx rfl hd hl k
theorem o_istoreN (X : Stand p l e R s m args below meth c T locs cells slots) (hx : p.tables.exec = Jvm.exec) {i : Fin 4} {v : Int32} (hd : decode c.code pc = .ok (.istore_n i, 1)) (hl : storeLocals Ls i.val (.int v) = some L') (k : Steps p.tables e below (T.setTop (mkF m (pc + 1) L' (S))) t) : Steps p.tables e below (T.setTop (mkF m pc Ls (.int v :: S))) t := XS.istoreN X.here hx rfl hd rfl hl k
theorem o_istore (X : Stand p l e R s m args below meth c T locs cells slots) (hx : p.tables.exec = Jvm.exec) {i : Nat} {v : Int32} (hd : decode c.code pc = .ok (.istore i, 2)) (hl : storeLocals Ls i (.int v) = some L') (k : Steps p.tables e below (T.setTop (mkF m (pc + 2) L' (S))) t) : Steps p.tables e below (T.setTop (mkF m pc Ls (.int v :: S))) t := XS.istore X.here hx rfl hd rfl hl k
theorem o_lstoreN (X : Stand p l e R s m args below meth c T locs cells slots) (hx : p.tables.exec = Jvm.exec) {i : Fin 4} {v : Int64} (hd : decode c.code pc = .ok (.lstore_n i, 1)) (hl : storeLocals Ls i.val (.long v) = some L') (k : Steps p.tables e below (T.setTop (mkF m (pc + 1) L' (S))) t) : Steps p.tables e below (T.setTop (mkF m pc Ls (.long v :: S))) t := XS.lstoreN X.here hx rfl hd rfl hl k
theorem o_lstore (X : Stand p l e R s m args below meth c T locs cells slots) (hx : p.tables.exec = Jvm.exec) {i : Nat} {v : Int64} (hd : decode c.code pc = .ok (.lstore i, 2)) (hl : storeLocals Ls i (.long v) = some L') (k : Steps p.tables e below (T.setTop (mkF m (pc + 2) L' (S))) t) : Steps p.tables e below (T.setTop (mkF m pc Ls (.long v :: S))) t := XS.lstore X.here hx rfl hd rfl hl k
theorem o_iconst (X : Stand p l e R s m args below meth c T locs cells slots) (hx : p.tables.exec = Jvm.exec) {i : Int} {v : Int32} (hd : decode c.code pc = .ok (.iconst i, 1)) (hv : v = Int32.ofInt i) (k : Steps p.tables e below (T.setTop (mkF m (pc + 1) Ls (.int v :: S))) t) : Steps p.tables e below (T.setTop (mkF m pc Ls (S))) t := XS.iconst X.here hx rfl hd (hv ▸ k)
theorem o_bipush (X : Stand p l e R s m args below meth c T locs cells slots) (hx : p.tables.exec = Jvm.exec) {i : Int} {v : Int32} (hd : decode c.code pc = .ok (.bipush i, 2)) (hv : v = (Int8.ofInt i).toInt32) (k : Steps p.tables e below (T.setTop (mkF m (pc + 2) Ls (.int v :: S))) t) : Steps p.tables e below (T.setTop (mkF m pc Ls (S))) t := XS.bipush X.here hx rfl hd (hv ▸ k)
theorem o_sipush (X : Stand p l e R s m args below meth c T locs cells slots) (hx : p.tables.exec = Jvm.exec) {i : Int} {v : Int32} (hd : decode c.code pc = .ok (.sipush i, 3)) (hv : v = (Int16.ofInt i).toInt32) (k : Steps p.tables e below (T.setTop (mkF m (pc + 3) Ls (.int v :: S))) t) : Steps p.tables e below (T.setTop (mkF m pc Ls (S))) t := XS.sipush X.here hx rfl hd (hv ▸ k)
theorem o_lconst (X : Stand p l e R s m args below meth c T locs cells slots) (hx : p.tables.exec = Jvm.exec) {i : Fin 2} {v : Int64} (hd : decode c.code pc = .ok (.lconst i, 1)) (hv : v = Int64.ofNat i) (k : Steps p.tables e below (T.setTop (mkF m (pc + 1) Ls (.long v :: S))) t) : Steps p.tables e below (T.setTop (mkF m pc Ls (S))) t := XS.lconst X.here hx rfl hd (hv ▸ k)
theorem o_ldc (X : Stand p l e R s m args below meth c T locs cells slots) (hx : p.tables.exec = Jvm.exec) {own : String} {i : Nat} {v : Int32} (ho : s.vm.findClass own = some m.cls) (w : (Cond.constant own i v).before args s = true) (hd : decode c.code pc = .ok (.ldc i, 2))  (k : Steps p.tables e below (T.setTop (mkF m (pc + 2) Ls (.int v :: S))) t) : Steps p.tables e below (T.setTop (mkF m pc Ls (S))) t := X.ldcInt hx ho w (g := mkF m pc Ls S) rfl hd _ k
theorem o_ldc2 (X : Stand p l e R s m args below meth c T locs cells slots) (hx : p.tables.exec = Jvm.exec) {own : String} {i : Nat} {v : Int64} (ho : s.vm.findClass own = some m.cls) (w : (Cond.constantLong own i v).before args s = true) (hd : decode c.code pc = .ok (.ldc2_w i, 3))  (k : Steps p.tables e below (T.setTop (mkF m (pc + 3) Ls (.long v :: S))) t) : Steps p.tables e below (T.setTop (mkF m pc Ls (S))) t := X.ldc2Long hx ho w (g := mkF m pc Ls S) rfl hd _ k
theorem o_iaddE (X : Stand p l e R s m args below meth c T locs cells slots) (hx : p.tables.exec = Jvm.exec) {x y v : Int32} (hd : decode c.code pc = .ok (.iadd, 1)) (hv : v = x + y) (k : Steps p.tables e below (T.setTop (mkF m (pc + 1) Ls (.int v :: S))) t) : Steps p.tables e below (T.setTop (mkF m pc Ls (.int y :: .int x :: S))) t := XS.iadd X.here hx rfl hd rfl (hv ▸ k)
theorem o_ladd (X : Stand p l e R s m args below meth c T locs cells slots) (hx : p.tables.exec = Jvm.exec) {x y : Int64} (hd : decode c.code pc = .ok (.ladd, 1))  (k : Steps p.tables e below (T.setTop (mkF m (pc + 1) Ls (.long (x + y) :: S))) t) : Steps p.tables e below (T.setTop (mkF m pc Ls (.long y :: .long x :: S))) t := XS.ladd X.here hx rfl hd rfl k
theorem o_isubE (X : Stand p l e R s m args below meth c T locs cells slots) (hx : p.tables.exec = Jvm.exec) {x y v : Int32} (hd : decode c.code pc = .ok (.isub, 1)) (hv : v = x - y) (k : Steps p.tables e below (T.setTop (mkF m (pc + 1) Ls (.int v :: S))) t) : Steps p.tables e below (T.setTop (mkF m pc Ls (.int y :: .int x :: S))) t := XS.isub X.here hx rfl hd rfl (hv ▸ k)
theorem o_lsub (X : Stand p l e R s m args below meth c T locs cells slots) (hx : p.tables.exec = Jvm.exec) {x y : Int64} (hd : decode c.code pc = .ok (.lsub, 1))  (k : Steps p.tables e below (T.setTop (mkF m (pc + 1) Ls (.long (x - y) :: S))) t) : Steps p.tables e below (T.setTop (mkF m pc Ls (.long y :: .long x :: S))) t := XS.lsub X.here hx rfl hd rfl k
theorem o_imul (X : Stand p l e R s m args below meth c T locs cells slots) (hx : p.tables.exec = Jvm.exec) {x y : Int32} (hd : decode c.code pc = .ok (.imul, 1))  (k : Steps p.tables e below (T.setTop (mkF m (pc + 1) Ls (.int (x * y) :: S))) t) : Steps p.tables e below (T.setTop (mkF m pc Ls (.int y :: .int x :: S))) t := XS.imul X.here hx rfl hd rfl k
theorem o_imulE (X : Stand p l e R s m args below meth c T locs cells slots) (hx : p.tables.exec = Jvm.exec) {x y v : Int32} (hd : decode c.code pc = .ok (.imul, 1)) (hv : v = x * y) (k : Steps p.tables e below (T.setTop (mkF m (pc + 1) Ls (.int v :: S))) t) : Steps p.tables e below (T.setTop (mkF m pc Ls (.int y :: .int x :: S))) t := XS.imul X.here hx rfl hd rfl (hv ▸ k)
theorem o_lmul (X : Stand p l e R s m args below meth c T locs cells slots) (hx : p.tables.exec = Jvm.exec) {x y : Int64} (hd : decode c.code pc = .ok (.lmul, 1))  (k : Steps p.tables e below (T.setTop (mkF m (pc + 1) Ls (.long (x * y) :: S))) t) : Steps p.tables e below (T.setTop (mkF m pc Ls (.long y :: .long x :: S))) t := XS.lmul X.here hx rfl hd rfl k
theorem o_iand (X : Stand p l e R s m args below meth c T locs cells slots) (hx : p.tables.exec = Jvm.exec) {x y : Int32} (hd : decode c.code pc = .ok (.iand, 1))  (k : Steps p.tables e below (T.setTop (mkF m (pc + 1) Ls (.int (x &&& y) :: S))) t) : Steps p.tables e below (T.setTop (mkF m pc Ls (.int y :: .int x :: S))) t := XS.iand X.here hx rfl hd rfl k
theorem o_land (X : Stand p l e R s m args below meth c T locs cells slots) (hx : p.tables.exec = Jvm.exec) {x y : Int64} (hd : decode c.code pc = .ok (.land, 1))  (k : Steps p.tables e below (T.setTop (mkF m (pc + 1) Ls (.long (x &&& y) :: S))) t) : Steps p.tables e below (T.setTop (mkF m pc Ls (.long y :: .long x :: S))) t := XS.land X.here hx rfl hd rfl k
theorem o_i2l (X : Stand p l e R s m args below meth c T locs cells slots) (hx : p.tables.exec = Jvm.exec) {x : Int32} (hd : decode c.code pc = .ok (.i2l, 1))  (k : Steps p.tables e below (T.setTop (mkF m (pc + 1) Ls (.long (x.toInt64) :: S))) t) : Steps p.tables e below (T.setTop (mkF m pc Ls (.int x :: S))) t := XS.i2l X.here hx rfl hd rfl k
theorem o_i2lE (X : Stand p l e R s m args below meth c T locs cells slots) (hx : p.tables.exec = Jvm.exec) {x : Int32} {v : Int64} (hd : decode c.code pc = .ok (.i2l, 1)) (hv : v = x.toInt64) (k : Steps p.tables e below (T.setTop (mkF m (pc + 1) Ls (.long v :: S))) t) : Steps p.tables e below (T.setTop (mkF m pc Ls (.int x :: S))) t := XS.i2l X.here hx rfl hd rfl (hv ▸ k)
theorem o_lcmp (X : Stand p l e R s m args below meth c T locs cells slots) (hx : p.tables.exec = Jvm.exec) {x y : Int64} (hd : decode c.code pc = .ok (.lcmp, 1))  (k : Steps p.tables e below (T.setTop (mkF m (pc + 1) Ls (.int (lcmpW x y) :: S))) t) : Steps p.tables e below (T.setTop (mkF m pc Ls (.long y :: .long x :: S))) t := XS.lcmp X.here hx rfl hd rfl k
theorem o_idivE (X : Stand p l e R s m args below meth c T locs cells slots) (hx : p.tables.exec = Jvm.exec) {x y v : Int32} (hd : decode c.code pc = .ok (.idiv, 1)) (hy : y ≠ 0) (hv : v = x / y) (k : Steps p.tables e below (T.setTop (mkF m (pc + 1) Ls (.int v :: S))) t) : Steps p.tables e below (T.setTop (mkF m pc Ls (.int y :: .int x :: S))) t := XS.idiv X.here hx rfl hd rfl hy (hv ▸ k)
theorem o_ldiv (X : Stand p l e R s m args below meth c T locs cells slots) (hx : p.tables.exec = Jvm.exec) {x y : Int64} (hd : decode c.code pc = .ok (.ldiv, 1)) (hy : y ≠ 0) (k : Steps p.tables e below (T.setTop (mkF m (pc + 1) Ls (.long (x / y) :: S))) t) : Steps p.tables e below (T.setTop (mkF m pc Ls (.long y :: .long x :: S))) t := XS.ldiv X.here hx rfl hd rfl hy k
theorem o_goto (X : Stand p l e R s m args below meth c T locs cells slots) (hx : p.tables.exec = Jvm.exec) {o : Int} (hd : decode c.code pc = .ok (.goto o, 3)) (hp : ((pc : Int) + o).toNat = pc') (ho : 0 ≤ (pc : Int) + o) (k : Steps p.tables e below (T.setTop (mkF m (pc') Ls (S))) t) : Steps p.tables e below (T.setTop (mkF m pc Ls (S))) t := XS.goto X.here hx rfl rfl hd ho hp k
theorem o_ifNo (X : Stand p l e R s m args below meth c T locs cells slots) (hx : p.tables.exec = Jvm.exec) {cd : ClassFile.Cond} {x : Int32} {o : Int} (hd : decode c.code pc = .ok (.ifCond cd o, 3)) (hc : ifCond.holds cd x = false) (k : Steps p.tables e below (T.setTop (mkF m (pc + 3) Ls (S))) t) : Steps p.tables e below (T.setTop (mkF m pc Ls (.int x :: S))) t := XS.ifNo X.here hx rfl hd rfl hc k
end Steps
theorem d1_0 : decode prog_98_method_5_code 0 = .ok (.bipush 64, 2) := by decide +kernel
theorem d1_2 : decode prog_98_method_5_code 2 = .ok (.istore_n 3, 1) := by decide +kernel
theorem d1_3 : decode prog_98_method_5_code 3 = .ok (.bipush 16, 2) := by decide +kernel
theorem d1_5 : decode prog_98_method_5_code 5 = .ok (.iload_n 3, 1) := by decide +kernel
theorem d1_6 : decode prog_98_method_5_code 6 = .ok (.imul, 1) := by decide +kernel
theorem d1_7 : decode prog_98_method_5_code 7 = .ok (.istore 4, 2) := by decide +kernel
theorem d1_9 : decode prog_98_method_5_code 9 = .ok (.ldc2_w 92, 3) := by decide +kernel
theorem d1_12 : decode prog_98_method_5_code 12 = .ok (.ldc2_w 94, 3) := by decide +kernel
theorem d1_15 : decode prog_98_method_5_code 15 = .ok (.iload_n 2, 1) := by decide +kernel
theorem d1_16 : decode prog_98_method_5_code 16 = .ok (.i2l, 1) := by decide +kernel
theorem d1_17 : decode prog_98_method_5_code 17 = .ok (.lmul, 1) := by decide +kernel
theorem d1_18 : decode prog_98_method_5_code 18 = .ok (.ladd, 1) := by decide +kernel
theorem d1_19 : decode prog_98_method_5_code 19 = .ok (.ldc2_w 92, 3) := by decide +kernel
theorem d1_22 : decode prog_98_method_5_code 22 = .ok (.iload_n 2, 1) := by decide +kernel
theorem d1_23 : decode prog_98_method_5_code 23 = .ok (.i2l, 1) := by decide +kernel
theorem d1_24 : decode prog_98_method_5_code 24 = .ok (.lmul, 1) := by decide +kernel
theorem d1_25 : decode prog_98_method_5_code 25 = .ok (.ladd, 1) := by decide +kernel
theorem d1_26 : decode prog_98_method_5_code 26 = .ok (.lstore 5, 2) := by decide +kernel
theorem d1_28 : decode prog_98_method_5_code 28 = .ok (.sipush 128, 3) := by decide +kernel
theorem d1_31 : decode prog_98_method_5_code 31 = .ok (.iload_n 3, 1) := by decide +kernel
theorem d1_32 : decode prog_98_method_5_code 32 = .ok (.idiv, 1) := by decide +kernel
theorem d1_33 : decode prog_98_method_5_code 33 = .ok (.i2l, 1) := by decide +kernel
theorem d1_34 : decode prog_98_method_5_code 34 = .ok (.ldc2_w 96, 3) := by decide +kernel
theorem d1_37 : decode prog_98_method_5_code 37 = .ok (.ldc2_w 94, 3) := by decide +kernel
theorem d1_40 : decode prog_98_method_5_code 40 = .ok (.iload_n 2, 1) := by decide +kernel
theorem d1_41 : decode prog_98_method_5_code 41 = .ok (.i2l, 1) := by decide +kernel
theorem d1_42 : decode prog_98_method_5_code 42 = .ok (.lmul, 1) := by decide +kernel
theorem d1_43 : decode prog_98_method_5_code 43 = .ok (.ladd, 1) := by decide +kernel
theorem d1_44 : decode prog_98_method_5_code 44 = .ok (.lmul, 1) := by decide +kernel
theorem d1_45 : decode prog_98_method_5_code 45 = .ok (.lload 5, 2) := by decide +kernel
theorem d1_47 : decode prog_98_method_5_code 47 = .ok (.iload_n 3, 1) := by decide +kernel
theorem d1_48 : decode prog_98_method_5_code 48 = .ok (.i2l, 1) := by decide +kernel
theorem d1_49 : decode prog_98_method_5_code 49 = .ok (.ladd, 1) := by decide +kernel
theorem d1_50 : decode prog_98_method_5_code 50 = .ok (.lconst 1, 1) := by decide +kernel
theorem d1_51 : decode prog_98_method_5_code 51 = .ok (.lsub, 1) := by decide +kernel
theorem d1_52 : decode prog_98_method_5_code 52 = .ok (.iload_n 3, 1) := by decide +kernel
theorem d1_53 : decode prog_98_method_5_code 53 = .ok (.i2l, 1) := by decide +kernel
theorem d1_54 : decode prog_98_method_5_code 54 = .ok (.ldiv, 1) := by decide +kernel
theorem d1_55 : decode prog_98_method_5_code 55 = .ok (.ladd, 1) := by decide +kernel
theorem d1_56 : decode prog_98_method_5_code 56 = .ok (.iload_n 2, 1) := by decide +kernel
theorem d1_57 : decode prog_98_method_5_code 57 = .ok (.sipush 832, 3) := by decide +kernel
theorem d1_60 : decode prog_98_method_5_code 60 = .ok (.iload_n 3, 1) := by decide +kernel
theorem d1_61 : decode prog_98_method_5_code 61 = .ok (.iadd, 1) := by decide +kernel
theorem d1_62 : decode prog_98_method_5_code 62 = .ok (.iconst 1, 1) := by decide +kernel
theorem d1_63 : decode prog_98_method_5_code 63 = .ok (.isub, 1) := by decide +kernel
theorem d1_64 : decode prog_98_method_5_code 64 = .ok (.iload_n 3, 1) := by decide +kernel
theorem d1_65 : decode prog_98_method_5_code 65 = .ok (.idiv, 1) := by decide +kernel
theorem d1_66 : decode prog_98_method_5_code 66 = .ok (.imul, 1) := by decide +kernel
theorem d1_67 : decode prog_98_method_5_code 67 = .ok (.i2l, 1) := by decide +kernel
theorem d1_68 : decode prog_98_method_5_code 68 = .ok (.ladd, 1) := by decide +kernel
theorem d1_69 : decode prog_98_method_5_code 69 = .ok (.iload_n 2, 1) := by decide +kernel
theorem d1_70 : decode prog_98_method_5_code 70 = .ok (.sipush 832, 3) := by decide +kernel
theorem d1_73 : decode prog_98_method_5_code 73 = .ok (.iload 4, 2) := by decide +kernel
theorem d1_75 : decode prog_98_method_5_code 75 = .ok (.iadd, 1) := by decide +kernel
theorem d1_76 : decode prog_98_method_5_code 76 = .ok (.iconst 1, 1) := by decide +kernel
theorem d1_77 : decode prog_98_method_5_code 77 = .ok (.isub, 1) := by decide +kernel
theorem d1_78 : decode prog_98_method_5_code 78 = .ok (.iload 4, 2) := by decide +kernel
theorem d1_80 : decode prog_98_method_5_code 80 = .ok (.idiv, 1) := by decide +kernel
theorem d1_81 : decode prog_98_method_5_code 81 = .ok (.imul, 1) := by decide +kernel
theorem d1_82 : decode prog_98_method_5_code 82 = .ok (.i2l, 1) := by decide +kernel
theorem d1_83 : decode prog_98_method_5_code 83 = .ok (.ladd, 1) := by decide +kernel
theorem d1_84 : decode prog_98_method_5_code 84 = .ok (.lstore 7, 2) := by decide +kernel
theorem d1_86 : decode prog_98_method_5_code 86 = .ok (.lload_n 0, 1) := by decide +kernel
theorem d1_87 : decode prog_98_method_5_code 87 = .ok (.lload 7, 2) := by decide +kernel
theorem d1_89 : decode prog_98_method_5_code 89 = .ok (.lmul, 1) := by decide +kernel
theorem d1_90 : decode prog_98_method_5_code 90 = .ok (.lreturn, 1) := by decide +kernel
theorem pn_1 : plainName "com/example/slackline/slackline/replay/Steps" = true := by first | (simp [plainName, overriddenIn]; done) | decide +kernel
theorem ef_1 (m : MethodId) (x0 : Int64) (x1 : Int32) : entryFrame m #[(.long x0), (.int x1)] 9 = mkF m 0 #[vj x0, .second, vi x1, .unset, .unset, .unset, .unset, .unset, .unset] [] := by first | (simp [entryFrame, mkF, argsToLocals, Value.category]; done) | rfl
def f1 (q1 : Int64) (p2 : Int32) : Int64 := (q1 * (((((2 : Int64) * ((12 : Int64) + ((8 : Int64) * (p2.toInt64)))) + ((((((16 : Int64) + ((8 : Int64) * (p2.toInt64))) + ((16 : Int64) * (p2.toInt64))) + (64 : Int64)) - (1 : Int64)) / (64 : Int64))) + ((p2 * (13 : Int32)).toInt64)) + ((p2 * (1 : Int32)).toInt64)))
def Q1 (Z : State) (q1 : Int64) (p2 : Int32) (h0 : Heap) (n0 : Nat) (v : Option Value) (h : Heap) (L : List Loc) : Prop := v = some (.long (f1 q1 p2)) ∧ Fr n0 L ∧ h = h0
set_option maxRecDepth 65536 in
set_option maxHeartbeats 40000000 in
theorem rm1 (l : Launch) (Z : State) (a0 : Array Value) (hw : ∀ d ∈ tables_1, d.before a0 Z = true) (ws : List Jvm.Cond) (q1 : Int64) (p2 : Int32) (h0 : Heap) (n0 : Nat) (Z0 : n0 ≤ h0.size) :
    MetFree l y_0 (head1 (Jvm.Cond.code y_0 prog_98_method_5_code 9 (some .long) :: ws) ({ frames := 0, cells := 0, slots := 0, locals := 0 } : Room)) (fun a U => a = #[(.long q1), (.int p2)] ∧ Z.Warmed39 U.vm ∧ U.heap = h0) (fun _ _ _ _ _ => True) (fun _ U o U' => ∃ v L, o = .returned v ∧ Q1 Z q1 p2 h0 n0 v U'.heap L ∧ FrameEnd U o U' L ({ frames := 0, cells := 0, slots := 0, locals := 0 } : Room).cells ({ frames := 0, cells := 0, slots := 0, locals := 0 } : Room).slots) := by
  refine MetFree.of_bodySF (plainFor_of_name pn_1) hisR ?_
  intro p e s m args below meth c s₁ Bd hml0 hP hK
  obtain ⟨rfl, hZ, hh⟩ := hP
  have hx := Bd.exec
  have hby := Bd.bytes
  have hml : c.maxLocals = 9 := hml0
  have hown : s.vm.findClass "com/example/slackline/slackline/replay/Steps" = some m.cls := findClass_of_methodNamed Bd.named
  have hnm := (name_of_methodNamed Bd.named Bd.method).1
  have X0 : Stand p l e ({ frames := 0, cells := 0, slots := 0, locals := 0 } : Room) s m #[(.long q1), (.int p2)] below meth c s₁ [] 0 0 := Stand.of_body Bd
  have e0 : s₁.heap = h0 := by rw [← hh, Bd.state]; rfl
  have N0 := Fr.nil n0
  obtain ⟨F0, hF0⟩ : ∃ F : JFrame, F = entryFrame m #[(.long q1), (.int p2)] 9 := ⟨_, rfl⟩
  have pre0 : ∀ t, Steps p.tables e below (s₁.setTop F0) t → Steps p.tables e below (s₁.setTop (entryFrame m #[(.long q1), (.int p2)] 9)) t := fun t k => hF0 ▸ k
  have go0 : Go p e below s₁ F0 s₁ (mkF m 0 #[vj q1, .second, vi p2, .unset, .unset, .unset, .unset, .unset, .unset] []) := fun t k => castTop (hF0.trans (ef_1 m q1 p2)) k
  have go1 : Go p e below s₁ F0 s₁ (mkF m 90 #[vj q1, .second, vi p2, vi (64 : Int32), vi (1024 : Int32), vj (((16 : Int64) + ((8 : Int64) * (p2.toInt64))) + ((16 : Int64) * (p2.toInt64))), .second, vj (((((2 : Int64) * ((12 : Int64) + ((8 : Int64) * (p2.toInt64)))) + ((((((16 : Int64) + ((8 : Int64) * (p2.toInt64))) + ((16 : Int64) * (p2.toInt64))) + (64 : Int64)) - (1 : Int64)) / (64 : Int64))) + ((p2 * (13 : Int32)).toInt64)) + ((p2 * (1 : Int32)).toInt64)), .second] [(.long (q1 * (((((2 : Int64) * ((12 : Int64) + ((8 : Int64) * (p2.toInt64)))) + ((((((16 : Int64) + ((8 : Int64) * (p2.toInt64))) + ((16 : Int64) * (p2.toInt64))) + (64 : Int64)) - (1 : Int64)) / (64 : Int64))) + ((p2 * (13 : Int32)).toInt64)) + ((p2 * (1 : Int32)).toInt64))))]) := by
    intro t kt
    refine go0 t ?_
    refine o_bipush X0 hx (hb hby d1_0) (v := 64) rfl ?_
    refine o_istoreN X0 hx (hb hby d1_2) (L' := #[vj q1, .second, vi p2, vi (64 : Int32), .unset, .unset, .unset, .unset, .unset]) rfl ?_
    refine o_bipush X0 hx (hb hby d1_3) (v := 16) rfl ?_
    refine o_iloadN X0 hx (hb hby d1_5) rfl ?_
    refine o_imulE X0 hx (hb hby d1_6) (v := 1024) rfl ?_
    refine o_istore X0 hx (hb hby d1_7) (L' := #[vj q1, .second, vi p2, vi (64 : Int32), vi (1024 : Int32), .unset, .unset, .unset, .unset]) rfl ?_
    refine o_ldc2 X0 hx hown (mvT hZ (own_w hw 11 rfl)) (hb hby d1_9) ?_
    refine o_ldc2 X0 hx hown (mvT hZ (own_w hw 12 rfl)) (hb hby d1_12) ?_
    refine o_iloadN X0 hx (hb hby d1_15) rfl ?_
    refine o_i2l X0 hx (hb hby d1_16) ?_
    refine o_lmul X0 hx (hb hby d1_17) ?_
    refine o_ladd X0 hx (hb hby d1_18) ?_
    refine o_ldc2 X0 hx hown (mvT hZ (own_w hw 11 rfl)) (hb hby d1_19) ?_
    refine o_iloadN X0 hx (hb hby d1_22) rfl ?_
    refine o_i2l X0 hx (hb hby d1_23) ?_
    refine o_lmul X0 hx (hb hby d1_24) ?_
    refine o_ladd X0 hx (hb hby d1_25) ?_
    refine o_lstore X0 hx (hb hby d1_26) (L' := #[vj q1, .second, vi p2, vi (64 : Int32), vi (1024 : Int32), vj (((16 : Int64) + ((8 : Int64) * (p2.toInt64))) + ((16 : Int64) * (p2.toInt64))), .second, .unset, .unset]) rfl ?_
    refine o_sipush X0 hx (hb hby d1_28) (v := 128) rfl ?_
    refine o_iloadN X0 hx (hb hby d1_31) rfl ?_
    refine o_idivE X0 hx (hb hby d1_32) (by decide) (v := 2) rfl ?_
    refine o_i2lE X0 hx (hb hby d1_33) (v := 2) rfl ?_
    refine o_ldc2 X0 hx hown (mvT hZ (own_w hw 13 rfl)) (hb hby d1_34) ?_
    refine o_ldc2 X0 hx hown (mvT hZ (own_w hw 12 rfl)) (hb hby d1_37) ?_
    refine o_iloadN X0 hx (hb hby d1_40) rfl ?_
    refine o_i2l X0 hx (hb hby d1_41) ?_
    refine o_lmul X0 hx (hb hby d1_42) ?_
    refine o_ladd X0 hx (hb hby d1_43) ?_
    refine o_lmul X0 hx (hb hby d1_44) ?_
    refine o_lload X0 hx (hb hby d1_45) rfl ?_
    refine o_iloadN X0 hx (hb hby d1_47) rfl ?_
    refine o_i2lE X0 hx (hb hby d1_48) (v := 64) rfl ?_
    refine o_ladd X0 hx (hb hby d1_49) ?_
    refine o_lconst X0 hx (hb hby d1_50) (v := 1) rfl ?_
    refine o_lsub X0 hx (hb hby d1_51) ?_
    refine o_iloadN X0 hx (hb hby d1_52) rfl ?_
    refine o_i2lE X0 hx (hb hby d1_53) (v := 64) rfl ?_
    refine o_ldiv X0 hx (hb hby d1_54) (by decide) ?_
    refine o_ladd X0 hx (hb hby d1_55) ?_
    refine o_iloadN X0 hx (hb hby d1_56) rfl ?_
    refine o_sipush X0 hx (hb hby d1_57) (v := 832) rfl ?_
    refine o_iloadN X0 hx (hb hby d1_60) rfl ?_
    refine o_iaddE X0 hx (hb hby d1_61) (v := 896) rfl ?_
    refine o_iconst X0 hx (hb hby d1_62) (v := 1) rfl ?_
    refine o_isubE X0 hx (hb hby d1_63) (v := 895) rfl ?_
    refine o_iloadN X0 hx (hb hby d1_64) rfl ?_
    refine o_idivE X0 hx (hb hby d1_65) (by decide) (v := 13) rfl ?_
    refine o_imul X0 hx (hb hby d1_66) ?_
    refine o_i2l X0 hx (hb hby d1_67) ?_
    refine o_ladd X0 hx (hb hby d1_68) ?_
    refine o_iloadN X0 hx (hb hby d1_69) rfl ?_
    refine o_sipush X0 hx (hb hby d1_70) (v := 832) rfl ?_
    refine o_iload X0 hx (hb hby d1_73) rfl ?_
    refine o_iaddE X0 hx (hb hby d1_75) (v := 1856) rfl ?_
    refine o_iconst X0 hx (hb hby d1_76) (v := 1) rfl ?_
    refine o_isubE X0 hx (hb hby d1_77) (v := 1855) rfl ?_
    refine o_iload X0 hx (hb hby d1_78) rfl ?_
    refine o_idivE X0 hx (hb hby d1_80) (by decide) (v := 1) rfl ?_
    refine o_imul X0 hx (hb hby d1_81) ?_
    refine o_i2l X0 hx (hb hby d1_82) ?_
    refine o_ladd X0 hx (hb hby d1_83) ?_
    refine o_lstore X0 hx (hb hby d1_84) (L' := #[vj q1, .second, vi p2, vi (64 : Int32), vi (1024 : Int32), vj (((16 : Int64) + ((8 : Int64) * (p2.toInt64))) + ((16 : Int64) * (p2.toInt64))), .second, vj (((((2 : Int64) * ((12 : Int64) + ((8 : Int64) * (p2.toInt64)))) + ((((((16 : Int64) + ((8 : Int64) * (p2.toInt64))) + ((16 : Int64) * (p2.toInt64))) + (64 : Int64)) - (1 : Int64)) / (64 : Int64))) + ((p2 * (13 : Int32)).toInt64)) + ((p2 * (1 : Int32)).toInt64)), .second]) rfl ?_
    refine o_lloadN X0 hx (hb hby d1_86) rfl ?_
    refine o_lload X0 hx (hb hby d1_87) rfl ?_
    refine o_lmul X0 hx (hb hby d1_89) ?_
    exact kt
  obtain ⟨fs, hr, hrun, hended, hW, hsame⟩ := X0.leave (v := some (.long (q1 * (((((2 : Int64) * ((12 : Int64) + ((8 : Int64) * (p2.toInt64)))) + ((((((16 : Int64) + ((8 : Int64) * (p2.toInt64))) + ((16 : Int64) * (p2.toInt64))) + (64 : Int64)) - (1 : Int64)) / (64 : Int64))) + ((p2 * (13 : Int32)).toInt64)) + ((p2 * (1 : Int32)).toInt64))))) (fun h => by rw [Bd.returns] at h; cases h)
  refine ⟨_, _, pre0 _ (go1 _ ?_), hrun, hended, _, _, rfl, ?_, ⟨_, rfl⟩, hW, hsame.mono (by decide) (by decide)⟩
  · skip
    exact retOut X0 hx Bd.returns rfl (Or.inr (Or.inl ⟨rfl, rfl, _, rfl⟩)) (hb hby d1_90) hr
  · show Q1 Z q1 p2 h0 n0 _ s₁.heap _
    rw [e0]
    exact ⟨(congrArg (fun z => some (Value.long z)) (show (q1 * (((((2 : Int64) * ((12 : Int64) + ((8 : Int64) * (p2.toInt64)))) + ((((((16 : Int64) + ((8 : Int64) * (p2.toInt64))) + ((16 : Int64) * (p2.toInt64))) + (64 : Int64)) - (1 : Int64)) / (64 : Int64))) + ((p2 * (13 : Int32)).toInt64)) + ((p2 * (1 : Int32)).toInt64))) = f1 q1 p2 from by unfold f1; rfl)), N0, rfl⟩


theorem own_law (q : Int64) (p : Int32) : f1 (q &&& (1099511627775 : Int64)) (p &&& (65535 : Int32)) = ((q &&& (1099511627775 : Int64)) * (((24 : Int64) + ((30 : Int64) * ((p &&& (65535 : Int32)).toInt64))) + ((((3 : Int64) * ((p &&& (65535 : Int32)).toInt64)) + (9 : Int64)) / (8 : Int64)))) := by
  have hk : (p &&& (65535 : Int32)).toInt = p.toInt % 65536 := c_mask p 65535 16 (by decide) (by decide)
  have hb : 0 ≤ (p &&& (65535 : Int32)).toInt ∧ (p &&& (65535 : Int32)).toInt < 65536 := by omega
  clear hk
  generalize (p &&& (65535 : Int32)) = k at *
  generalize (q &&& (1099511627775 : Int64)) = s at *
  unfold f1
  have e : (((((2 : Int64) * ((12 : Int64) + ((8 : Int64) * (k.toInt64)))) + ((((((16 : Int64) + ((8 : Int64) * (k.toInt64))) + ((16 : Int64) * (k.toInt64))) + (64 : Int64)) - (1 : Int64)) / (64 : Int64))) + ((k * (13 : Int32)).toInt64)) + ((k * (1 : Int32)).toInt64)) = (((24 : Int64) + ((30 : Int64) * (k.toInt64))) + ((((3 : Int64) * (k.toInt64)) + (9 : Int64)) / (8 : Int64))) := by
    apply Int64.toInt_inj.mp
    have ex1 : (k.toInt64).toInt = k.toInt := by have q := c_i2l k; omega
    have ex2 : ((8 : Int64) * (k.toInt64)).toInt = (8 * k.toInt) := by have q := c_lmul (8 : Int64) (k.toInt64); have q1 := ((8 : Int64) * (k.toInt64)).toInt_lt; have q2 := ((8 : Int64) * (k.toInt64)).le_toInt; simp only [show (8 : Int64).toInt = 8 from rfl] at q; omega
    have ex3 : ((12 : Int64) + ((8 : Int64) * (k.toInt64))).toInt = (12 + (8 * k.toInt)) := by have q := c_ladd (12 : Int64) ((8 : Int64) * (k.toInt64)); have q1 := ((12 : Int64) + ((8 : Int64) * (k.toInt64))).toInt_lt; have q2 := ((12 : Int64) + ((8 : Int64) * (k.toInt64))).le_toInt; simp only [show (12 : Int64).toInt = 12 from rfl] at q; omega
    have ex4 : ((2 : Int64) * ((12 : Int64) + ((8 : Int64) * (k.toInt64)))).toInt = (2 * (12 + (8 * k.toInt))) := by have q := c_lmul (2 : Int64) ((12 : Int64) + ((8 : Int64) * (k.toInt64))); have q1 := ((2 : Int64) * ((12 : Int64) + ((8 : Int64) * (k.toInt64)))).toInt_lt; have q2 := ((2 : Int64) * ((12 : Int64) + ((8 : Int64) * (k.toInt64)))).le_toInt; simp only [show (2 : Int64).toInt = 2 from rfl] at q; omega
    have ex5 : ((16 : Int64) + ((8 : Int64) * (k.toInt64))).toInt = (16 + (8 * k.toInt)) := by have q := c_ladd (16 : Int64) ((8 : Int64) * (k.toInt64)); have q1 := ((16 : Int64) + ((8 : Int64) * (k.toInt64))).toInt_lt; have q2 := ((16 : Int64) + ((8 : Int64) * (k.toInt64))).le_toInt; simp only [show (16 : Int64).toInt = 16 from rfl] at q; omega
    have ex6 : ((16 : Int64) * (k.toInt64)).toInt = (16 * k.toInt) := by have q := c_lmul (16 : Int64) (k.toInt64); have q1 := ((16 : Int64) * (k.toInt64)).toInt_lt; have q2 := ((16 : Int64) * (k.toInt64)).le_toInt; simp only [show (16 : Int64).toInt = 16 from rfl] at q; omega
    have ex7 : (((16 : Int64) + ((8 : Int64) * (k.toInt64))) + ((16 : Int64) * (k.toInt64))).toInt = ((16 + (8 * k.toInt)) + (16 * k.toInt)) := by have q := c_ladd ((16 : Int64) + ((8 : Int64) * (k.toInt64))) ((16 : Int64) * (k.toInt64)); have q1 := (((16 : Int64) + ((8 : Int64) * (k.toInt64))) + ((16 : Int64) * (k.toInt64))).toInt_lt; have q2 := (((16 : Int64) + ((8 : Int64) * (k.toInt64))) + ((16 : Int64) * (k.toInt64))).le_toInt; omega
    have ex8 : ((((16 : Int64) + ((8 : Int64) * (k.toInt64))) + ((16 : Int64) * (k.toInt64))) + (64 : Int64)).toInt = (((16 + (8 * k.toInt)) + (16 * k.toInt)) + 64) := by have q := c_ladd (((16 : Int64) + ((8 : Int64) * (k.toInt64))) + ((16 : Int64) * (k.toInt64))) (64 : Int64); have q1 := ((((16 : Int64) + ((8 : Int64) * (k.toInt64))) + ((16 : Int64) * (k.toInt64))) + (64 : Int64)).toInt_lt; have q2 := ((((16 : Int64) + ((8 : Int64) * (k.toInt64))) + ((16 : Int64) * (k.toInt64))) + (64 : Int64)).le_toInt; simp only [show (64 : Int64).toInt = 64 from rfl] at q; omega
    have ex9 : (((((16 : Int64) + ((8 : Int64) * (k.toInt64))) + ((16 : Int64) * (k.toInt64))) + (64 : Int64)) - (1 : Int64)).toInt = ((((16 + (8 * k.toInt)) + (16 * k.toInt)) + 64) - 1) := by have q := c_lsub ((((16 : Int64) + ((8 : Int64) * (k.toInt64))) + ((16 : Int64) * (k.toInt64))) + (64 : Int64)) (1 : Int64); have q1 := (((((16 : Int64) + ((8 : Int64) * (k.toInt64))) + ((16 : Int64) * (k.toInt64))) + (64 : Int64)) - (1 : Int64)).toInt_lt; have q2 := (((((16 : Int64) + ((8 : Int64) * (k.toInt64))) + ((16 : Int64) * (k.toInt64))) + (64 : Int64)) - (1 : Int64)).le_toInt; simp only [show (1 : Int64).toInt = 1 from rfl] at q; omega
    have ex10 : ((((((16 : Int64) + ((8 : Int64) * (k.toInt64))) + ((16 : Int64) * (k.toInt64))) + (64 : Int64)) - (1 : Int64)) / (64 : Int64)).toInt = (((((16 + (8 * k.toInt)) + (16 * k.toInt)) + 64) - 1) / 64) := by have q := (c_ldiv (((((16 : Int64) + ((8 : Int64) * (k.toInt64))) + ((16 : Int64) * (k.toInt64))) + (64 : Int64)) - (1 : Int64)) (64 : Int64) 64 rfl (by decide)).1 (by omega); rw [q]; omega
    have ex11 : (((2 : Int64) * ((12 : Int64) + ((8 : Int64) * (k.toInt64)))) + ((((((16 : Int64) + ((8 : Int64) * (k.toInt64))) + ((16 : Int64) * (k.toInt64))) + (64 : Int64)) - (1 : Int64)) / (64 : Int64))).toInt = ((2 * (12 + (8 * k.toInt))) + (((((16 + (8 * k.toInt)) + (16 * k.toInt)) + 64) - 1) / 64)) := by have q := c_ladd ((2 : Int64) * ((12 : Int64) + ((8 : Int64) * (k.toInt64)))) ((((((16 : Int64) + ((8 : Int64) * (k.toInt64))) + ((16 : Int64) * (k.toInt64))) + (64 : Int64)) - (1 : Int64)) / (64 : Int64)); have q1 := (((2 : Int64) * ((12 : Int64) + ((8 : Int64) * (k.toInt64)))) + ((((((16 : Int64) + ((8 : Int64) * (k.toInt64))) + ((16 : Int64) * (k.toInt64))) + (64 : Int64)) - (1 : Int64)) / (64 : Int64))).toInt_lt; have q2 := (((2 : Int64) * ((12 : Int64) + ((8 : Int64) * (k.toInt64)))) + ((((((16 : Int64) + ((8 : Int64) * (k.toInt64))) + ((16 : Int64) * (k.toInt64))) + (64 : Int64)) - (1 : Int64)) / (64 : Int64))).le_toInt; omega
    have ex12 : (k * (13 : Int32)).toInt = (k.toInt * 13) := by have q := c_imul k (13 : Int32); have q1 := (k * (13 : Int32)).toInt_lt; have q2 := (k * (13 : Int32)).le_toInt; simp only [show (13 : Int32).toInt = 13 from rfl] at q; omega
    have ex13 : ((k * (13 : Int32)).toInt64).toInt = (k.toInt * 13) := by have q := c_i2l (k * (13 : Int32)); omega
    have ex14 : ((((2 : Int64) * ((12 : Int64) + ((8 : Int64) * (k.toInt64)))) + ((((((16 : Int64) + ((8 : Int64) * (k.toInt64))) + ((16 : Int64) * (k.toInt64))) + (64 : Int64)) - (1 : Int64)) / (64 : Int64))) + ((k * (13 : Int32)).toInt64)).toInt = (((2 * (12 + (8 * k.toInt))) + (((((16 + (8 * k.toInt)) + (16 * k.toInt)) + 64) - 1) / 64)) + (k.toInt * 13)) := by have q := c_ladd (((2 : Int64) * ((12 : Int64) + ((8 : Int64) * (k.toInt64)))) + ((((((16 : Int64) + ((8 : Int64) * (k.toInt64))) + ((16 : Int64) * (k.toInt64))) + (64 : Int64)) - (1 : Int64)) / (64 : Int64))) ((k * (13 : Int32)).toInt64); have q1 := ((((2 : Int64) * ((12 : Int64) + ((8 : Int64) * (k.toInt64)))) + ((((((16 : Int64) + ((8 : Int64) * (k.toInt64))) + ((16 : Int64) * (k.toInt64))) + (64 : Int64)) - (1 : Int64)) / (64 : Int64))) + ((k * (13 : Int32)).toInt64)).toInt_lt; have q2 := ((((2 : Int64) * ((12 : Int64) + ((8 : Int64) * (k.toInt64)))) + ((((((16 : Int64) + ((8 : Int64) * (k.toInt64))) + ((16 : Int64) * (k.toInt64))) + (64 : Int64)) - (1 : Int64)) / (64 : Int64))) + ((k * (13 : Int32)).toInt64)).le_toInt; omega
    have ex15 : (k * (1 : Int32)).toInt = (k.toInt * 1) := by have q := c_imul k (1 : Int32); have q1 := (k * (1 : Int32)).toInt_lt; have q2 := (k * (1 : Int32)).le_toInt; simp only [show (1 : Int32).toInt = 1 from rfl] at q; omega
    have ex16 : ((k * (1 : Int32)).toInt64).toInt = (k.toInt * 1) := by have q := c_i2l (k * (1 : Int32)); omega
    have ex17 : (((((2 : Int64) * ((12 : Int64) + ((8 : Int64) * (k.toInt64)))) + ((((((16 : Int64) + ((8 : Int64) * (k.toInt64))) + ((16 : Int64) * (k.toInt64))) + (64 : Int64)) - (1 : Int64)) / (64 : Int64))) + ((k * (13 : Int32)).toInt64)) + ((k * (1 : Int32)).toInt64)).toInt = ((((2 * (12 + (8 * k.toInt))) + (((((16 + (8 * k.toInt)) + (16 * k.toInt)) + 64) - 1) / 64)) + (k.toInt * 13)) + (k.toInt * 1)) := by have q := c_ladd ((((2 : Int64) * ((12 : Int64) + ((8 : Int64) * (k.toInt64)))) + ((((((16 : Int64) + ((8 : Int64) * (k.toInt64))) + ((16 : Int64) * (k.toInt64))) + (64 : Int64)) - (1 : Int64)) / (64 : Int64))) + ((k * (13 : Int32)).toInt64)) ((k * (1 : Int32)).toInt64); have q1 := (((((2 : Int64) * ((12 : Int64) + ((8 : Int64) * (k.toInt64)))) + ((((((16 : Int64) + ((8 : Int64) * (k.toInt64))) + ((16 : Int64) * (k.toInt64))) + (64 : Int64)) - (1 : Int64)) / (64 : Int64))) + ((k * (13 : Int32)).toInt64)) + ((k * (1 : Int32)).toInt64)).toInt_lt; have q2 := (((((2 : Int64) * ((12 : Int64) + ((8 : Int64) * (k.toInt64)))) + ((((((16 : Int64) + ((8 : Int64) * (k.toInt64))) + ((16 : Int64) * (k.toInt64))) + (64 : Int64)) - (1 : Int64)) / (64 : Int64))) + ((k * (13 : Int32)).toInt64)) + ((k * (1 : Int32)).toInt64)).le_toInt; omega
    have ex18 : ((30 : Int64) * (k.toInt64)).toInt = (30 * k.toInt) := by have q := c_lmul (30 : Int64) (k.toInt64); have q1 := ((30 : Int64) * (k.toInt64)).toInt_lt; have q2 := ((30 : Int64) * (k.toInt64)).le_toInt; simp only [show (30 : Int64).toInt = 30 from rfl] at q; omega
    have ex19 : ((24 : Int64) + ((30 : Int64) * (k.toInt64))).toInt = (24 + (30 * k.toInt)) := by have q := c_ladd (24 : Int64) ((30 : Int64) * (k.toInt64)); have q1 := ((24 : Int64) + ((30 : Int64) * (k.toInt64))).toInt_lt; have q2 := ((24 : Int64) + ((30 : Int64) * (k.toInt64))).le_toInt; simp only [show (24 : Int64).toInt = 24 from rfl] at q; omega
    have ex20 : ((3 : Int64) * (k.toInt64)).toInt = (3 * k.toInt) := by have q := c_lmul (3 : Int64) (k.toInt64); have q1 := ((3 : Int64) * (k.toInt64)).toInt_lt; have q2 := ((3 : Int64) * (k.toInt64)).le_toInt; simp only [show (3 : Int64).toInt = 3 from rfl] at q; omega
    have ex21 : (((3 : Int64) * (k.toInt64)) + (9 : Int64)).toInt = ((3 * k.toInt) + 9) := by have q := c_ladd ((3 : Int64) * (k.toInt64)) (9 : Int64); have q1 := (((3 : Int64) * (k.toInt64)) + (9 : Int64)).toInt_lt; have q2 := (((3 : Int64) * (k.toInt64)) + (9 : Int64)).le_toInt; simp only [show (9 : Int64).toInt = 9 from rfl] at q; omega
    have ex22 : ((((3 : Int64) * (k.toInt64)) + (9 : Int64)) / (8 : Int64)).toInt = (((3 * k.toInt) + 9) / 8) := by have q := (c_ldiv (((3 : Int64) * (k.toInt64)) + (9 : Int64)) (8 : Int64) 8 rfl (by decide)).1 (by omega); rw [q]; omega
    have ex23 : (((24 : Int64) + ((30 : Int64) * (k.toInt64))) + ((((3 : Int64) * (k.toInt64)) + (9 : Int64)) / (8 : Int64))).toInt = ((24 + (30 * k.toInt)) + (((3 * k.toInt) + 9) / 8)) := by have q := c_ladd ((24 : Int64) + ((30 : Int64) * (k.toInt64))) ((((3 : Int64) * (k.toInt64)) + (9 : Int64)) / (8 : Int64)); have q1 := (((24 : Int64) + ((30 : Int64) * (k.toInt64))) + ((((3 : Int64) * (k.toInt64)) + (9 : Int64)) / (8 : Int64))).toInt_lt; have q2 := (((24 : Int64) + ((30 : Int64) * (k.toInt64))) + ((((3 : Int64) * (k.toInt64)) + (9 : Int64)) / (8 : Int64))).le_toInt; omega
    omega
  rw [e]

theorem pn_0 : plainName "com/example/slackline/slackline/replay/StepsHeapBytesPinLaw" = true := by first | (simp [plainName, overriddenIn]; done) | decide +kernel
theorem pd0_0 : parseMethodDescriptor "(JI)J" = some ⟨[.long, .int], some .long⟩ := by decide +kernel
theorem ef_0 (m : MethodId) (x0 : Int64) (x1 : Int32) : entryFrame m #[(.long x0), (.int x1)] maxLocals = mkF m 0 #[vj x0, .second, vi x1, .unset, .unset, .unset, .unset, .unset] [] := by first | (simp [entryFrame, mkF, argsToLocals, Value.category, maxLocals]; done) | rfl
def Q0 (Z : State) (q1 : Int64) (p2 : Int32) (h0 : Heap) (n0 : Nat) (v : Option Value) (h : Heap) (L : List Loc) : Prop := v = some (.int (1 : Int32)) ∧ Fr n0 L
set_option maxRecDepth 65536 in
set_option maxHeartbeats 40000000 in
theorem rm0 (l : Launch) (Z : State) (a0 : Array Value) (hw : ∀ d ∈ tables_1, d.before a0 Z = true) (ws : List Jvm.Cond) (q1 : Int64) (p2 : Int32) (h0 : Heap) (n0 : Nat) (Z0 : n0 ≤ h0.size) :
    MetFree l x (head1 (Jvm.Cond.code x code maxLocals ret :: ws) room_1) (fun a U => a = #[(.long q1), (.int p2)] ∧ Z.Warmed39 U.vm ∧ U.heap = h0) (fun _ _ _ _ _ => True) (fun _ U o U' => ∃ v L, o = .returned v ∧ Q0 Z q1 p2 h0 n0 v U'.heap L ∧ FrameEnd U o U' L room_1.cells room_1.slots) := by
  refine MetFree.of_bodySF (plainFor_of_name pn_0) hisR ?_
  intro p e s m args below meth c s₁ Bd hml0 hP hK
  obtain ⟨rfl, hZ, hh⟩ := hP
  have hx := Bd.exec
  have hby := Bd.bytes
  have hml : c.maxLocals = 8 := hml0
  have hown : s.vm.findClass "com/example/slackline/slackline/replay/StepsHeapBytesPinLaw" = some m.cls := findClass_of_methodNamed Bd.named
  have hnm := (name_of_methodNamed Bd.named Bd.method).1
  have X0 : Stand p l e room_1 s m #[(.long q1), (.int p2)] below meth c s₁ [] 0 0 := Stand.of_body Bd
  have e0 : s₁.heap = h0 := by rw [← hh, Bd.state]; rfl
  have N0 := Fr.nil n0
  obtain ⟨F0, hF0⟩ : ∃ F : JFrame, F = entryFrame m #[(.long q1), (.int p2)] maxLocals := ⟨_, rfl⟩
  have pre0 : ∀ t, Steps p.tables e below (s₁.setTop F0) t → Steps p.tables e below (s₁.setTop (entryFrame m #[(.long q1), (.int p2)] maxLocals)) t := fun t k => hF0 ▸ k
  have go0 : Go p e below s₁ F0 s₁ (mkF m 0 #[vj q1, .second, vi p2, .unset, .unset, .unset, .unset, .unset] []) := fun t k => castTop (hF0.trans (ef_0 m q1 p2)) k
  have go1 : Go p e below s₁ F0 s₁ (mkF m 44 #[vj q1, .second, vi p2, vj (q1 &&& (1099511627775 : Int64)), .second, vi (p2 &&& (65535 : Int32)), vj (((24 : Int64) + ((30 : Int64) * ((p2 &&& (65535 : Int32)).toInt64))) + ((((3 : Int64) * ((p2 &&& (65535 : Int32)).toInt64)) + (9 : Int64)) / (8 : Int64))), .second] [(.int (p2 &&& (65535 : Int32))), (.long (q1 &&& (1099511627775 : Int64)))]) := by
    intro t kt
    refine go0 t ?_
    refine o_lloadN X0 hx (hb hby at_0) rfl ?_
    refine o_ldc2 X0 hx hown (mvT hZ (own_w hw 0 rfl)) (hb hby at_1) ?_
    refine o_land X0 hx (hb hby at_4) ?_
    refine o_lstoreN X0 hx (hb hby at_5) (L' := #[vj q1, .second, vi p2, vj (q1 &&& (1099511627775 : Int64)), .second, .unset, .unset, .unset]) rfl ?_
    refine o_iloadN X0 hx (hb hby at_6) rfl ?_
    refine o_ldc X0 hx hown (mvT hZ (own_w hw 1 rfl)) (hb hby at_7) ?_
    refine o_iand X0 hx (hb hby at_9) ?_
    refine o_istore X0 hx (hb hby at_10) (L' := #[vj q1, .second, vi p2, vj (q1 &&& (1099511627775 : Int64)), .second, vi (p2 &&& (65535 : Int32)), .unset, .unset]) rfl ?_
    refine o_ldc2 X0 hx hown (mvT hZ (own_w hw 2 rfl)) (hb hby at_12) ?_
    refine o_ldc2 X0 hx hown (mvT hZ (own_w hw 3 rfl)) (hb hby at_15) ?_
    refine o_iload X0 hx (hb hby at_18) rfl ?_
    refine o_i2l X0 hx (hb hby at_20) ?_
    refine o_lmul X0 hx (hb hby at_21) ?_
    refine o_ladd X0 hx (hb hby at_22) ?_
    refine o_ldc2 X0 hx hown (mvT hZ (own_w hw 4 rfl)) (hb hby at_23) ?_
    refine o_iload X0 hx (hb hby at_26) rfl ?_
    refine o_i2l X0 hx (hb hby at_28) ?_
    refine o_lmul X0 hx (hb hby at_29) ?_
    refine o_ldc2 X0 hx hown (mvT hZ (own_w hw 5 rfl)) (hb hby at_30) ?_
    refine o_ladd X0 hx (hb hby at_33) ?_
    refine o_ldc2 X0 hx hown (mvT hZ (own_w hw 6 rfl)) (hb hby at_34) ?_
    refine o_ldiv X0 hx (hb hby at_37) (by decide) ?_
    refine o_ladd X0 hx (hb hby at_38) ?_
    refine o_lstore X0 hx (hb hby at_39) (L' := #[vj q1, .second, vi p2, vj (q1 &&& (1099511627775 : Int64)), .second, vi (p2 &&& (65535 : Int32)), vj (((24 : Int64) + ((30 : Int64) * ((p2 &&& (65535 : Int32)).toInt64))) + ((((3 : Int64) * ((p2 &&& (65535 : Int32)).toInt64)) + (9 : Int64)) / (8 : Int64))), .second]) rfl ?_
    refine o_lloadN X0 hx (hb hby at_41) rfl ?_
    refine o_iload X0 hx (hb hby at_42) rfl ?_
    exact kt
  obtain ⟨_, _, ⟨T2, L2, k2, n2⟩, -, X2, ⟨Lc2, hQ2, l2, y2, z2⟩, st2⟩ := Jvm.LawKit.callS X0 hx (y := y_0) hown (mvT hZ (own_w hw 7 rfl)) (mvT hZ (own_w hw 8 rfl)) (mvT hZ (own_w hw 9 rfl)) (mvT hZ (own_w hw 10 rfl)) (by decide) (backOf (W := 0) (rm1 l Z a0 hw [] (q1 &&& (1099511627775 : Int64)) (p2 &&& (65535 : Int32)) h0 n0 Z0 ) hZ (own_w hw 10 rfl) (own_w hw 9 rfl) (by decide) (by decide)) (g := (mkF m 44 #[vj q1, .second, vi p2, vj (q1 &&& (1099511627775 : Int64)), .second, vi (p2 &&& (65535 : Int32)), vj (((24 : Int64) + ((30 : Int64) * ((p2 &&& (65535 : Int32)).toInt64))) + ((((3 : Int64) * ((p2 &&& (65535 : Int32)).toInt64)) + (9 : Int64)) / (8 : Int64))), .second] [(.int (p2 &&& (65535 : Int32))), (.long (q1 &&& (1099511627775 : Int64)))])) rfl (by rw [hml]; rfl) (argsL := [(.long (q1 &&& (1099511627775 : Int64))), (.int (p2 &&& (65535 : Int32)))]) (rest := []) (lenOf pd0_0 rfl) rfl (by show 2 * 0 + _ ≤ _; exact Nat.le_of_eq rfl) (hb hby at_44) (fun _ _ => ⟨rfl, e0, (by decide : 0 + 0 ≤ _), (by decide : 0 + 0 ≤ _)⟩)
  dsimp only [Pt.U, Pt.locs, Pt.cells, Pt.slots] at X2 l2 y2 z2 st2 hQ2
  subst l2 y2 z2
  obtain ⟨rfl, Nq2, eh2⟩ := hQ2
  have N2 := Fr.app N0 Nq2
  have go3 : Go p e below s₁ F0 T2 (mkF m 47 #[vj q1, .second, vi p2, vj (q1 &&& (1099511627775 : Int64)), .second, vi (p2 &&& (65535 : Int32)), vj (((24 : Int64) + ((30 : Int64) * ((p2 &&& (65535 : Int32)).toInt64))) + ((((3 : Int64) * ((p2 &&& (65535 : Int32)).toInt64)) + (9 : Int64)) / (8 : Int64))), .second] [(.long (f1 (q1 &&& (1099511627775 : Int64)) (p2 &&& (65535 : Int32))))]) := fun t k => go1 t (st2 t k)
  have go5 : Go p e below s₁ F0 T2 (mkF m 52 #[vj q1, .second, vi p2, vj (q1 &&& (1099511627775 : Int64)), .second, vi (p2 &&& (65535 : Int32)), vj (((24 : Int64) + ((30 : Int64) * ((p2 &&& (65535 : Int32)).toInt64))) + ((((3 : Int64) * ((p2 &&& (65535 : Int32)).toInt64)) + (9 : Int64)) / (8 : Int64))), .second] [(.int (lcmpW (f1 (q1 &&& (1099511627775 : Int64)) (p2 &&& (65535 : Int32))) ((q1 &&& (1099511627775 : Int64)) * (((24 : Int64) + ((30 : Int64) * ((p2 &&& (65535 : Int32)).toInt64))) + ((((3 : Int64) * ((p2 &&& (65535 : Int32)).toInt64)) + (9 : Int64)) / (8 : Int64))))))]) := by
    intro t kt
    refine go3 t ?_
    refine o_lloadN X2 hx (hb hby at_47) rfl ?_
    refine o_lload X2 hx (hb hby at_48) rfl ?_
    refine o_lmul X2 hx (hb hby at_50) ?_
    refine o_lcmp X2 hx (hb hby at_51) ?_
    exact kt
  have hd4 : (f1 (q1 &&& (1099511627775 : Int64)) (p2 &&& (65535 : Int32))) = ((q1 &&& (1099511627775 : Int64)) * (((24 : Int64) + ((30 : Int64) * ((p2 &&& (65535 : Int32)).toInt64))) + ((((3 : Int64) * ((p2 &&& (65535 : Int32)).toInt64)) + (9 : Int64)) / (8 : Int64)))) := own_law _ _
  have go6 : Go p e below s₁ F0 T2 (mkF m 60 #[vj q1, .second, vi p2, vj (q1 &&& (1099511627775 : Int64)), .second, vi (p2 &&& (65535 : Int32)), vj (((24 : Int64) + ((30 : Int64) * ((p2 &&& (65535 : Int32)).toInt64))) + ((((3 : Int64) * ((p2 &&& (65535 : Int32)).toInt64)) + (9 : Int64)) / (8 : Int64))), .second] [(.int (1 : Int32))]) := by
    intro t kt
    refine go5 t ?_
    refine o_ifNo X2 hx (hb hby at_52) ((if0 _ _).trans (teq ((lw_eq _ _).mpr hd4)).2) ?_
    refine o_iconst X2 hx (hb hby at_55) (v := 1) rfl ?_
    refine o_goto X2 hx (hb hby at_56) (pc' := 60) rfl (by decide) ?_
    exact kt
  obtain ⟨fs, hr, hrun, hended, hW, hsame⟩ := X2.leave (v := some (.int (1 : Int32))) (fun h => by rw [Bd.returns] at h; cases h)
  refine ⟨_, _, pre0 _ (go6 _ ?_), hrun, hended, _, _, rfl, ?_, ⟨_, rfl⟩, hW, hsame.mono (by decide) (by decide)⟩
  · skip
    exact retN X2 hx (t := .boolean) Bd.returns (by simp) (hb hby at_60) hr
  · show Q0 Z q1 p2 h0 n0 _ T2.heap _
    rw [eh2]
    exact ⟨rfl, N2⟩

set_option maxRecDepth 65536 in
set_option maxHeartbeats 40000000 in
theorem comes_1 {Post : Tables → Env → Array Value → State → Outcome → State → Prop} (hpost : ∀ tb e args s v u, (limb_1_1.after args s (.returned v) u = true ∧ limb_1_2.after args s (.returned v) u = true ∧ True) → FrameEnd s (.returned v) u (Jvm.fieldLocs frame_1_writes args s ++ Jvm.arrayLocs frame_1_arrays args s ++ Jvm.staticLocs frame_1_statics s) 0 0 → Post tb e args s (.returned v) u) :
    ArmFor flags0 classFile x code maxLocals ret World_1 tables_1 room_1 Calls_1 rest_1 Pre_1 Post := by
  intro l hfl _ _ p e ha hc hk s m args below hf hA hF happ hP
  obtain ⟨hcalls, hrest, hpre⟩ := hP
  obtain ⟨-, -, -, hnamed, -, -, -, hat⟩ := (Spec.applies_iff hf).mp happ
  obtain ⟨hg, hn⟩ := and_e (Cond.before_iff.mp (show (Jvm.Cond.and given_1 narrow_1).before args s = true from hpre))
  obtain ⟨g1, g2⟩ := and_e hg
  obtain ⟨g3, g4⟩ := and_e g2
  obtain ⟨w0, w1, rfl⟩ : ∃ w0 w1 : Value, args = #[w0, w1] := by
    have hs : args.size = 2 := by simpa [Cond.value, given_1] using g1
    obtain ⟨L⟩ := args
    match L, hs with
    | [w0, w1], _ => exact ⟨w0, w1, rfl⟩
  have hw := fun d (hd : d ∈ tables_1) => atoms_spec (ws := Jvm.Cond.code x code maxLocals ret :: tables_1) hat d (List.mem_cons_of_mem _ hd)
  have hfit : Fit s := fun {y c} hc i hi => by
    obtain ⟨ha, rfl⟩ := Array.getElem?_eq_some_iff.mp hc
    have q := List.all_eq_true.mp ((Array.all_eq_true_iff_forall_mem.mp hF) _ (Array.getElem_mem ha)) i (List.mem_range.mpr hi)
    simpa [Array.getElem?_eq_getElem hi] using q
  obtain ⟨i0, ei0⟩ := isL_v g3
  obtain rfl : w0 = (.long i0) := Option.some.inj ei0
  obtain ⟨i1, ei1⟩ := is_v g4
  obtain rfl : w1 = (.int i1) := Option.some.inj ei1
  obtain ⟨n, o, h1, h2, h3, _, L, rfl, ⟨rfl, N⟩, hq⟩ := rm0 l s _ hw tables_1 i0 i1  s.heap s.heap.size (Nat.le_refl _)  p e ha hc hk s m _ below hf ((Spec.applies_iff_loose hf).mp happ).1 ⟨rfl, State.Warmed39.refl s, rfl⟩ trivial
  refine ⟨n, _, h1, h2, h3, hpost _ _ _ _ _ _ ⟨Cond.after_iff.mpr rfl, Cond.after_iff.mpr (eq_i res_at (Term.int_eval (1)) rfl), trivial⟩ ⟨hq.1, hq.2.1, (hq.2.2.sift fun y hy => Or.inr (N y hy)).mono (by decide) (by decide)⟩⟩
theorem main_1_1 : Claimed_1_1 := comes_1 fun _ _ _ _ _ _ h hF => ⟨h.1, hF⟩
theorem main_1_2 : Claimed_1_2 := comes_1 fun _ _ _ _ _ _ h hF => ⟨h.2.1, hF⟩
end Jvm.Pilot.@@N@@
namespace Jvm.Pilot.@@N@@
open Jvm Jvm.ClassFile Sem Op Lib Jvm.Free Jvm.Stand Jvm.Pilot.@@N@@.Jvm.D
/-! MADE BY PROGRAM (witnessworld.py) out of the Statement's table words and the real class files: 9 classes; the members and pool entries that the words name. The judged class is class 1, her method 1. -/
namespace start1
open Jvm.ClassFile
def u (s : String) : CpInfo := .utf8 (stringToUtf16 s)
/-- a pool by its gaps: so many unusable entries, then the entry; so many at the end -/
def gap : Nat → List CpInfo → List CpInfo
  | 0, r => r
  | n + 1, r => .unusable :: gap n r
def poolList (es : List (Nat × CpInfo)) (last : Nat) : List CpInfo := es.foldr (fun e r => gap e.1 (e.2 :: r)) (gap last [])
def pool (es : List (Nat × CpInfo)) (last : Nat) : Array CpInfo := ⟨poolList es last⟩
def fileOf (pool : Array CpInfo) (this : Nat) (attrs : Array Attribute := #[]) (ms : Array MethodInfo := #[]) (fl : Nat := 33) (sup : Nat := 0) (ifs : Array Nat := #[]) (fds : Array FieldInfo := #[]) : ClassFile where
  minorVersion := 0
  majorVersion := 65
  constantPool := pool
  accessFlags := fl
  thisClass := this
  superClass := sup
  interfaces := ifs
  fields := fds
  methods := ms
  attributes := attrs
def plain (name : String) (sup : Option ClassId) : Class where
  name := name
  kind := .ordinary
  loader := none
  accessFlags := 33
  super := sup
  interfaces := #[]
  cf := none
  fields := #[]
  methods := #[]
  instanceTypes := #[]
  staticTypes := #[]
  resolved := #[]
  callSites := []
  init := .initialized
  statics := none
  mirror := none

def pool0 : Array CpInfo := pool [(5, u "<init>"), (0, u "()V"), (1, .class_ 10), (1, u "java/lang/Object")] 113

def k0m0 : Method := { name := "<init>", desc := "()V", sig := { parameters := [], returnType := none }, accessFlags := 1, code := none }
/-- java/lang/Object -/
def k0 : Class := { plain "java/lang/Object" none with
  accessFlags := 33
  interfaces := #[]
  cf := some (fileOf pool0 8 #[] #[{ accessFlags := 1, nameIndex := 5, descriptorIndex := 6, attributes := #[] }] 33 0 #[] #[])
  fields := #[]
  methods := #[k0m0]
  instanceTypes := #[]
  staticTypes := #[]
  resolved := Array.replicate 124 none
  statics := none }

def pool1 : Array CpInfo := pool [(2, .class_ 4), (1, u "java/lang/Object"), (0, u "<init>"), (0, u "()V"), (0, .long 1099511627775), (1, .integer 65535), (0, .long 24), (1, .long 30), (1, .long 3), (1, .long 9), (1, .long 8), (1, .methodref 21 22), (0, .class_ 23), (0, .nameAndType 24 25), (0, u "com/example/slackline/slackline/replay/Steps"), (0, u "heapBytes"), (0, u "(JI)J"), (0, .class_ 27), (0, u "com/example/slackline/slackline/replay/StepsHeapBytesPinLaw"), (2, u "law"), (0, u "(JI)Z")] 3

def k1m0 : Method := { name := "<init>", desc := "()V", sig := { parameters := [], returnType := none }, accessFlags := 2, code := none }
def k1c1 : Code := { maxStack := 6, maxLocals := 8, code := code, exceptionTable := #[], attributes := #[] }
def k1m1 : Method := { name := "law", desc := "(JI)Z", sig := { parameters := [.long, .int], returnType := some .boolean }, accessFlags := 9, code := some k1c1 }
/-- com/example/slackline/slackline/replay/StepsHeapBytesPinLaw -/
def k1 : Class := { plain "com/example/slackline/slackline/replay/StepsHeapBytesPinLaw" (some 0) with
  accessFlags := 49
  interfaces := #[]
  cf := some (fileOf pool1 26 #[] #[{ accessFlags := 2, nameIndex := 5, descriptorIndex := 6, attributes := #[] }, { accessFlags := 9, nameIndex := 30, descriptorIndex := 31, attributes := #[] }] 49 2 #[] #[])
  fields := #[]
  methods := #[k1m0, k1m1]
  instanceTypes := #[]
  staticTypes := #[]
  resolved := Array.replicate 35 none
  statics := none }

def pool2 : Array CpInfo := pool [(3, .class_ 4), (0, u "com/example/slackline/slackline/replay/Steps"), (8, u "chunks"), (0, u "[Lcom/example/slackline/slackline/replay/Steps$Chunk;"), (1, .class_ 18), (1, u "com/example/slackline/slackline/replay/Steps$Chunk"), (8, u "kinds"), (0, u "I"), (2, u "peaks"), (0, u "[J"), (16, .class_ 51), (1, u "java/lang/Object"), (6, u "firstTimes"), (3, u "[I"), (4, u "capacity"), (2, u "tops"), (9, u "chunkSize"), (0, .class_ 82), (0, u "com/example/slackline/slackline/replay/Steps$Block"), (8, u "chunkCount"), (0, .long 16), (1, .long 8), (1, .long 12), (5, .class_ 103), (0, u "com/example/slackline/slackline/replay/Steps$Cursor"), (16, u "splitChunk"), (2, u "splitStep"), (96, u "searches"), (0, u "J"), (19, u "passedRun"), (12, .class_ 256), (1, u "com/example/slackline/slackline/replay/Steps$FreeRuns"), (35, u "lastFloor"), (14, u "CHUNK"), (2, u "LAST_STEP_HOLDS_UNITS"), (0, u "Ljava/lang/String;"), (0, u "BLOCK"), (1, u "LEVELS"), (1, u "FREE_RUNS_BYTES"), (1, u "BLOCKED"), (1, u "LAST_RUN"), (1, u "LONGEST"), (1, u "NONE"), (0, u "PASSED"), (0, u "RUN_FOUND"), (0, u "STEPS_ASKED"), (5, u "heapBytes"), (0, u "(JI)J")] 28

def k2c0 : Code := { maxStack := 8, maxLocals := 9, code := prog_98_method_5_code, exceptionTable := #[], attributes := #[] }
def k2m0 : Method := { name := "heapBytes", desc := "(JI)J", sig := { parameters := [.long, .int], returnType := some .long }, accessFlags := 8, code := some k2c0 }
/-- com/example/slackline/slackline/replay/Steps -/
def k2 : Class := { plain "com/example/slackline/slackline/replay/Steps" (some 0) with
  accessFlags := 48
  interfaces := #[]
  cf := some (fileOf pool2 3 #[.nestMembers #[102, 254, 81, 16]] #[{ accessFlags := 8, nameIndex := 333, descriptorIndex := 334, attributes := #[] }] 48 49 #[] #[{ accessFlags := 24, nameIndex := 307, descriptorIndex := 28, attributes := #[] }, { accessFlags := 24, nameIndex := 310, descriptorIndex := 311, attributes := #[] }, { accessFlags := 26, nameIndex := 312, descriptorIndex := 28, attributes := #[] }, { accessFlags := 26, nameIndex := 314, descriptorIndex := 28, attributes := #[] }, { accessFlags := 26, nameIndex := 316, descriptorIndex := 28, attributes := #[] }, { accessFlags := 26, nameIndex := 318, descriptorIndex := 28, attributes := #[] }, { accessFlags := 26, nameIndex := 320, descriptorIndex := 28, attributes := #[] }, { accessFlags := 26, nameIndex := 322, descriptorIndex := 28, attributes := #[] }, { accessFlags := 26, nameIndex := 324, descriptorIndex := 221, attributes := #[] }, { accessFlags := 26, nameIndex := 325, descriptorIndex := 28, attributes := #[] }, { accessFlags := 26, nameIndex := 326, descriptorIndex := 28, attributes := #[] }, { accessFlags := 26, nameIndex := 327, descriptorIndex := 28, attributes := #[] }, { accessFlags := 18, nameIndex := 67, descriptorIndex := 62, attributes := #[] }, { accessFlags := 18, nameIndex := 70, descriptorIndex := 62, attributes := #[] }, { accessFlags := 18, nameIndex := 80, descriptorIndex := 28, attributes := #[] }, { accessFlags := 18, nameIndex := 27, descriptorIndex := 28, attributes := #[] }, { accessFlags := 2, nameIndex := 13, descriptorIndex := 14, attributes := #[] }, { accessFlags := 2, nameIndex := 91, descriptorIndex := 28, attributes := #[] }, { accessFlags := 2, nameIndex := 58, descriptorIndex := 32, attributes := #[] }, { accessFlags := 2, nameIndex := 31, descriptorIndex := 32, attributes := #[] }, { accessFlags := 2, nameIndex := 292, descriptorIndex := 28, attributes := #[] }, { accessFlags := 2, nameIndex := 241, descriptorIndex := 221, attributes := #[] }, { accessFlags := 2, nameIndex := 120, descriptorIndex := 28, attributes := #[] }, { accessFlags := 2, nameIndex := 123, descriptorIndex := 28, attributes := #[] }, { accessFlags := 2, nameIndex := 220, descriptorIndex := 221, attributes := #[] }])
  fields := #[{ name := "CHUNK", type := .int, accessFlags := 24, slot := 0, constantValue := 0 }, { name := "LAST_STEP_HOLDS_UNITS", type := (.object "java/lang/String"), accessFlags := 24, slot := 1, constantValue := 0 }, { name := "BLOCK", type := .int, accessFlags := 26, slot := 2, constantValue := 0 }, { name := "LEVELS", type := .int, accessFlags := 26, slot := 3, constantValue := 0 }, { name := "FREE_RUNS_BYTES", type := .int, accessFlags := 26, slot := 4, constantValue := 0 }, { name := "BLOCKED", type := .int, accessFlags := 26, slot := 5, constantValue := 0 }, { name := "LAST_RUN", type := .int, accessFlags := 26, slot := 6, constantValue := 0 }, { name := "LONGEST", type := .int, accessFlags := 26, slot := 7, constantValue := 0 }, { name := "NONE", type := .long, accessFlags := 26, slot := 8, constantValue := 0 }, { name := "PASSED", type := .int, accessFlags := 26, slot := 9, constantValue := 0 }, { name := "RUN_FOUND", type := .int, accessFlags := 26, slot := 10, constantValue := 0 }, { name := "STEPS_ASKED", type := .int, accessFlags := 26, slot := 11, constantValue := 0 }, { name := "capacity", type := (.array .int), accessFlags := 18, slot := 0, constantValue := 0 }, { name := "tops", type := (.array .int), accessFlags := 18, slot := 1, constantValue := 0 }, { name := "chunkSize", type := .int, accessFlags := 18, slot := 2, constantValue := 0 }, { name := "kinds", type := .int, accessFlags := 18, slot := 3, constantValue := 0 }, { name := "chunks", type := (.array (.object "com/example/slackline/slackline/replay/Steps$Chunk")), accessFlags := 2, slot := 4, constantValue := 0 }, { name := "chunkCount", type := .int, accessFlags := 2, slot := 5, constantValue := 0 }, { name := "firstTimes", type := (.array .long), accessFlags := 2, slot := 6, constantValue := 0 }, { name := "peaks", type := (.array .long), accessFlags := 2, slot := 7, constantValue := 0 }, { name := "lastFloor", type := .int, accessFlags := 2, slot := 8, constantValue := 0 }, { name := "passedRun", type := .long, accessFlags := 2, slot := 9, constantValue := 0 }, { name := "splitChunk", type := .int, accessFlags := 2, slot := 10, constantValue := 0 }, { name := "splitStep", type := .int, accessFlags := 2, slot := 11, constantValue := 0 }, { name := "searches", type := .long, accessFlags := 2, slot := 12, constantValue := 0 }]
  methods := #[k2m0]
  instanceTypes := #[(.array .int), (.array .int), .int, .int, (.array (.object "com/example/slackline/slackline/replay/Steps$Chunk")), .int, (.array .long), (.array .long), .int, .long, .int, .int, .long]
  staticTypes := #[.int, (.object "java/lang/String"), .int, .int, .int, .int, .int, .int, .long, .int, .int, .int]
  resolved := Array.replicate 363 none
  statics := none }

def pool3 : Array CpInfo := pool [(1, u "java/lang/Cloneable"), (0, .class_ 1), (0, u "java/lang/Object"), (0, .class_ 3)] 3

/-- java/lang/Cloneable -/
def k3 : Class := { plain "java/lang/Cloneable" (some 0) with
  accessFlags := 1537
  interfaces := #[]
  cf := some (fileOf pool3 2 #[] #[] 1537 4 #[] #[])
  fields := #[]
  methods := #[]
  instanceTypes := #[]
  staticTypes := #[]
  resolved := Array.replicate 8 none
  statics := none }

def pool4 : Array CpInfo := pool [(1, u "java/io/Serializable"), (0, .class_ 1), (0, u "java/lang/Object"), (0, .class_ 3)] 3

/-- java/io/Serializable -/
def k4 : Class := { plain "java/io/Serializable" (some 0) with
  accessFlags := 1537
  interfaces := #[]
  cf := some (fileOf pool4 2 #[] #[] 1537 4 #[] #[])
  fields := #[]
  methods := #[]
  instanceTypes := #[]
  staticTypes := #[]
  resolved := Array.replicate 8 none
  statics := none }

/-- the primitive byte -/
def k5 : Class := { plain "byte" none with kind := .primitive 'B', accessFlags := 0x411 }
/-- [B -/
def k6 : Class := { plain "[B" (some 0) with kind := .array 5 .byte, interfaces := #[3, 4], accessFlags := 1041 }

/-- the primitive int -/
def k7 : Class := { plain "int" none with kind := .primitive 'I', accessFlags := 0x411 }
/-- [I -/
def k8 : Class := { plain "[I" (some 0) with kind := .array 7 .int, interfaces := #[3, 4], accessFlags := 1041 }

def heap : Heap := #[]
def classes : Array Class := #[k0, k1, k2, k3, k4, k5, k6, k7, k8]
def interned : List (Array UInt16 × Addr) := []
def slotsUsed : Nat := 0
def theMethod : MethodId := ⟨1, 1⟩
def args0 : Array Value := #[.long 5, .int 5]
def aboutOver (below : List Frame) : State where
  vm := { classes := classes, interned := interned.toArray }
  heap := heap
  slotsUsed := slotsUsed
  threads := #[{ frames := .invoking theMethod args0 :: below }]
def below0 : List Frame := [.native { method := ⟨0, 0⟩, args := #[] }]
def about1 : State := aboutOver below0
def p0 : Program := .bare "" "" ""
def e0 : Env := launch0.env 0 0 0
theorem w_frames : about1.frames = Frame.invoking theMethod args0 :: below0 := rfl
set_option maxRecDepth 65536 in
theorem w_args : argsFit about1.vm theMethod args0 = true := by decide +kernel
set_option maxRecDepth 65536 in
theorem w_heap : heapFits about1 = true := by decide +kernel
set_option maxRecDepth 65536 in
theorem w_runnable : about1.curStatus? = some .runnable := by decide +kernel
set_option maxRecDepth 65536 in
theorem w_alone : about1.alone = true := by decide +kernel
set_option maxRecDepth 65536 in
theorem w_named : about1.methodNamed? x = some theMethod := by decide +kernel
set_option maxRecDepth 65536 in
theorem w_hears : about1.hears theMethod below0 = true := by decide +kernel
set_option maxRecDepth 65536 in
theorem w_ripe : about1.ripe theMethod args0 below0 = true := by decide +kernel
theorem w_running : about1.status = .running := rfl
set_option maxRecDepth 65536 in
theorem w_room : about1.hasRoom e0.platform room_1 = true :=
  launch0.hasRoom_least _ room_1 (by decide +kernel) (by decide +kernel) (by decide +kernel) (by decide +kernel) (by decide +kernel) (by decide +kernel)
theorem allAtoms_all (ts : List Jvm.Cond) (a : Array Jvm.Value) (st : Jvm.State) : (allAtoms ts).before a st = ts.all (fun c => c.before a st) := by
  induction ts with
  | nil => rfl
  | cons c t ih =>
    show (Jvm.Cond.and c (allAtoms t)).before a st = _
    rw [Jvm.Cond.before_and, ih, List.all_cons]
def words1 : List Jvm.Cond := Jvm.Cond.code x code maxLocals ret :: tables_1
/-- a 'code' word, met by the world's own term for the bytes: nothing is compared byte by byte -/
theorem code_word {y : MethodName} {bytes : ByteArray} {mx : Nat} {rt : Option FieldType} {a : Array Value} {s : State} {m : MethodId} {meth : Method} {c : Code} (h1 : s.methodNamed? y = some m) (h2 : s.vm.method? m = some meth) (h3 : meth.code = some c) (h4 : c.code = bytes)
    (h5 : (c.maxLocals == mx && c.exceptionTable.isEmpty && decide (c.maxStack ≤ mostOperands) && decide (meth.sig.returnType = rt) && !meth.locks && decide (parseMethodDescriptor y.desc = some meth.sig)) = true) : (Jvm.Cond.code y bytes mx rt).before a s = true := by
  simp only [Bool.and_eq_true, beq_iff_eq, Bool.not_eq_true', decide_eq_true_eq] at h5
  obtain ⟨⟨⟨⟨⟨g1, g2⟩, g3⟩, g4⟩, g5⟩, g6⟩ := h5
  simp [Cond.before, Cond.holds, Cond.value, h1, h2, h3, h4, g1, g2, g3, g4, g5, g6]
def isCode : Jvm.Cond → Bool
  | .code _ _ _ _ => true
  | _ => false
theorem all_split {L : List Jvm.Cond} {P : Jvm.Cond → Bool} (h1 : L.all (fun c => isCode c || P c) = true) (h2 : ∀ c ∈ L.filter isCode, P c = true) : L.all P = true := by
  refine List.all_eq_true.mpr fun c hc => ?_
  have h := List.all_eq_true.mp h1 c hc
  rcases Bool.eq_false_or_eq_true (isCode c) with hi | hi
  · exact h2 c (List.mem_filter.mpr ⟨hc, hi⟩)
  · simpa [hi] using h
set_option maxRecDepth 65536 in
theorem w_c0 : (Jvm.Cond.code x code maxLocals ret).before args0 about1 = true := code_word (m := ⟨1, 1⟩) (meth := k1m1) (c := k1c1) (by decide +kernel) rfl rfl rfl (by decide +kernel)
set_option maxRecDepth 65536 in
theorem w_c1 : (Jvm.Cond.code ({ cls := "com/example/slackline/slackline/replay/Steps", name := "heapBytes", desc := "(JI)J" } : Jvm.MethodName) prog_98_method_5_code (9 : Nat) (Option.some Jvm.ClassFile.FieldType.long)).before args0 about1 = true := code_word (m := ⟨2, 0⟩) (meth := k2m0) (c := k2c0) (by decide +kernel) rfl rfl rfl (by decide +kernel)
def codes1 : List Jvm.Cond := [Jvm.Cond.code x code maxLocals ret, Jvm.Cond.code ({ cls := "com/example/slackline/slackline/replay/Steps", name := "heapBytes", desc := "(JI)J" } : Jvm.MethodName) prog_98_method_5_code (9 : Nat) (Option.some Jvm.ClassFile.FieldType.long)]
set_option maxRecDepth 65536 in
theorem codes_eq : words1.filter isCode = codes1 := rfl
theorem w_codes : ∀ c ∈ words1.filter isCode, c.before args0 about1 = true := by
  rw [codes_eq]
  intro c hc
  simp only [codes1, List.mem_cons, List.not_mem_nil, or_false] at hc
  rcases hc with rfl | rfl
  · exact w_c0
  · exact w_c1
set_option maxRecDepth 65536 in
theorem w_t1 : words1.all (fun c => isCode c || c.before args0 about1) = true := by decide +kernel
theorem w_tables : (allAtoms (Jvm.Cond.code x code maxLocals ret :: tables_1)).before args0 about1 = true := by
  rw [allAtoms_all]
  show words1.all (fun c => c.before args0 about1) = true
  refine all_split ?_ w_codes
  rw [w_t1]
set_option maxRecDepth 65536 in
theorem w_case : (Jvm.Cond.and given_1 narrow_1).before args0 about1 = true := by decide +kernel
theorem w_applies : (headSpec (Jvm.Cond.code x code maxLocals ret :: tables_1) room_1).applies x e0.platform about1 = true :=
  (Spec.applies_iff w_frames).mpr ⟨w_running, w_runnable, w_alone, w_named, w_hears, w_ripe, w_room, w_tables⟩
theorem atStart : AtStart classFile x code maxLocals ret World_1 tables_1 room_1 Calls_1 rest_1 Pre_1 launch0 p0 e0 about1 theMethod args0 below0 :=
  ⟨lists_1, trivial, launch0.admits_env _ _ _, launch0.least_env, fairChoices_fair.cas, fairChoices_fair.clock, w_frames, w_args, w_heap, w_applies, trivial, trivial, w_case⟩
end start1
theorem witness_1 : WitnessClaimed_1 := ⟨start1.p0, start1.e0, start1.about1, start1.theMethod, start1.args0, start1.below0, start1.atStart⟩
end Jvm.Pilot.@@N@@
