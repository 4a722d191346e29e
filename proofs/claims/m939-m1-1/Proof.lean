import JvmDerived
import JvmDerived.Pilot.@@N@@Statement
import JvmDerived.Pilot.@@N@@Code
set_option linter.unusedVariables false
set_option linter.unusedSimpArgs false

namespace Jvm.RoadKit
open Sem ClassFile Op Lib Jvm.Stand Jvm.Free Jvm.LawKit
section New
variable {p : Program} {l : Launch} {e : Env} {R : Room} {s : State} {m : MethodId} {args : Array Value} {below : List Frame} {meth : Method} {c : Code} {T : State} {locs : List Loc} {cells slots : Nat}
theorem retI (X : Stand p l e R s m args below meth c T locs cells slots) (hx : p.tables.exec = Jvm.exec) {pc : Nat} {Ls : Array Slot} {z : Int32} {rest : List Value} (hret : meth.sig.returnType = some .int) (hd : decode c.code pc = .ok (.ireturn, 1)) {fs : List Frame}
    (hl : ∀ (f : JFrame) (acts : List Action), f.method = m → f.locked = none → f.entered = [] → (doReturn e (T.setTop f) acts (some (.int z))).1 = T.setFrames fs) : Steps p.tables e below (T.setTop (mkF m pc Ls (.int z :: rest))) (T.setFrames fs) := by
  have hm' : T.vm.method? m = some meth := X.method'
  have hn : narrow .int (.int z) = .int z := rfl
  show Steps p.tables e below (T.setTop { method := m, pc := pc, locals := Ls, stack := _ :: rest, locked := none }) _
  jvm_step X.here [X.here.top, hx, hd, hm', hret, hn]
  first | (intro acts; rw [hl _ acts rfl rfl rfl]) | rw [hl _ _ rfl rfl rfl]
  exact Steps.refl _
end New
end Jvm.RoadKit
namespace Jvm.Pilot.@@N@@
open Jvm Jvm.ClassFile Sem Op Lib Jvm.Free Jvm.Stand Jvm.LawKit Jvm.RoadKit Bundle Jvm.Pilot.@@N@@.Jvm.D
abbrev c_0 : String := "com/example/grammar_game_solver/grammargamesolver/summary/NumberedSets"
abbrev y_0 : MethodName := ⟨"java/lang/Long", "hashCode", "(J)I"⟩
abbrev y_1 : MethodName := ⟨"com/example/grammar_game_solver/grammargamesolver/summary/NumberedSets", "slotOf", "(II)I"⟩
abbrev y_2 : MethodName := ⟨"com/example/grammar_game_solver/grammargamesolver/summary/NumberedSets", "<init>", "(I)V"⟩
abbrev y_3 : MethodName := ⟨"com/example/grammar_game_solver/grammargamesolver/summary/NumberedSets", "numberOf", "([JI)I"⟩
abbrev y_4 : MethodName := ⟨"com/example/grammar_game_solver/grammargamesolver/summary/NumberedSets", "numberOf", "([J)I"⟩
abbrev y_5 : MethodName := ⟨"com/example/grammar_game_solver/grammargamesolver/summary/NumberedSets", "equalsAt", "(I[JI)Z"⟩
abbrev y_6 : MethodName := ⟨"com/example/grammar_game_solver/grammargamesolver/summary/NumberedSets", "contains", "(II)Z"⟩
abbrev y_7 : MethodName := ⟨"com/example/grammar_game_solver/grammargamesolver/summary/NumberedSetsContainsPinLaw", "holds", "([JI)Z"⟩
abbrev own_zl (n : Nat) : List Value := List.replicate n (.long (0 : Int64))
abbrev own_zi (n : Nat) : List Value := List.replicate n (.int (0 : Int32))
abbrev own_zr (n : Nat) : List Value := List.replicate n .null
abbrev vi (x : Int32) : Slot := .val (.int x)
abbrev vj (x : Int64) : Slot := .val (.long x)
abbrev vr (x : Addr) : Slot := .val (.ref x)
section Steps
variable {p : Program} {l : Launch} {e : Env} {R : Room} {s : State} {m : MethodId} {args : Array Value} {below : List Frame} {meth : Method} {c : Code} {T : State} {locs : List Loc} {cells slots : Nat} {pc pc' : Nat} {Ls L' : Array Slot} {S : List Value} {t : State} {Z : State} {h : Heap} {a : Addr} {cl : Cell}
abbrev Go (p : Program) (e : Env) (below : List Frame) (T0 : State) (g0 : JFrame) (T : State) (g : JFrame) : Prop := ∀ t, Steps p.tables e below (T.setTop g) t → Steps p.tables e below (T0.setTop g0) t
theorem own_w {Z : State} {a0 : Array Value} (hw : ∀ d ∈ tables_1, d.before a0 Z = true) (k : Nat) {d : Jvm.Cond} (h : tables_1[k]? = some d) : d.before a0 Z = true := hw _ (List.mem_of_getElem? h)
theorem o_iloadN (X : Stand p l e R s m args below meth c T locs cells slots) (hx : p.tables.exec = Jvm.exec) {i : Fin 4} {v : Int32} (hd : decode c.code pc = .ok (.iload_n i, 1)) (hl : Ls[i.val]? = some (.val (.int v))) (k : Steps p.tables e below (T.setTop (mkF m (pc + 1) Ls (.int v :: S))) t) : Steps p.tables e below (T.setTop (mkF m pc Ls (S))) t := XS.iloadN X.here hx rfl hd hl k
theorem o_iload (X : Stand p l e R s m args below meth c T locs cells slots) (hx : p.tables.exec = Jvm.exec) {i : Nat} {v : Int32} (hd : decode c.code pc = .ok (.iload i, 2)) (hl : Ls[i]? = some (.val (.int v))) (k : Steps p.tables e below (T.setTop (mkF m (pc + 2) Ls (.int v :: S))) t) : Steps p.tables e below (T.setTop (mkF m pc Ls (S))) t := XS.iload X.here hx rfl hd hl k
theorem o_lloadN (X : Stand p l e R s m args below meth c T locs cells slots) (hx : p.tables.exec = Jvm.exec) {i : Fin 4} {v : Int64} (hd : decode c.code pc = .ok (.lload_n i, 1)) (hl : Ls[i.val]? = some (.val (.long v))) (k : Steps p.tables e below (T.setTop (mkF m (pc + 1) Ls (.long v :: S))) t) : Steps p.tables e below (T.setTop (mkF m pc Ls (S))) t := XS.lloadN X.here hx rfl hd hl k
theorem o_lload (X : Stand p l e R s m args below meth c T locs cells slots) (hx : p.tables.exec = Jvm.exec) {i : Nat} {v : Int64} (hd : decode c.code pc = .ok (.lload i, 2)) (hl : Ls[i]? = some (.val (.long v))) (k : Steps p.tables e below (T.setTop (mkF m (pc + 2) Ls (.long v :: S))) t) : Steps p.tables e below (T.setTop (mkF m pc Ls (S))) t := XS.lload X.here hx rfl hd hl k
theorem o_aloadN (X : Stand p l e R s m args below meth c T locs cells slots) (hx : p.tables.exec = Jvm.exec) {i : Fin 4} {v : Value} (hd : decode c.code pc = .ok (.aload_n i, 1)) (hl : Ls[i.val]? = some (.val v)) (hv : v.isRef = true) (k : Steps p.tables e below (T.setTop (mkF m (pc + 1) Ls (v :: S))) t) : Steps p.tables e below (T.setTop (mkF m pc Ls (S))) t := XS.aloadN X.here hx rfl hd hl hv k
theorem o_aload (X : Stand p l e R s m args below meth c T locs cells slots) (hx : p.tables.exec = Jvm.exec) {i : Nat} {v : Value} (hd : decode c.code pc = .ok (.aload i, 2)) (hl : Ls[i]? = some (.val v)) (hv : v.isRef = true) (k : Steps p.tables e below (T.setTop (mkF m (pc + 2) Ls (v :: S))) t) : Steps p.tables e below (T.setTop (mkF m pc Ls (S))) t := XS.aload X.here hx rfl hd hl hv k
theorem o_istoreN (X : Stand p l e R s m args below meth c T locs cells slots) (hx : p.tables.exec = Jvm.exec) {i : Fin 4} {v : Int32} (hd : decode c.code pc = .ok (.istore_n i, 1)) (hl : storeLocals Ls i.val (.int v) = some L') (k : Steps p.tables e below (T.setTop (mkF m (pc + 1) L' (S))) t) : Steps p.tables e below (T.setTop (mkF m pc Ls (.int v :: S))) t := XS.istoreN X.here hx rfl hd rfl hl k
theorem o_istore (X : Stand p l e R s m args below meth c T locs cells slots) (hx : p.tables.exec = Jvm.exec) {i : Nat} {v : Int32} (hd : decode c.code pc = .ok (.istore i, 2)) (hl : storeLocals Ls i (.int v) = some L') (k : Steps p.tables e below (T.setTop (mkF m (pc + 2) L' (S))) t) : Steps p.tables e below (T.setTop (mkF m pc Ls (.int v :: S))) t := XS.istore X.here hx rfl hd rfl hl k
theorem o_lstoreN (X : Stand p l e R s m args below meth c T locs cells slots) (hx : p.tables.exec = Jvm.exec) {i : Fin 4} {v : Int64} (hd : decode c.code pc = .ok (.lstore_n i, 1)) (hl : storeLocals Ls i.val (.long v) = some L') (k : Steps p.tables e below (T.setTop (mkF m (pc + 1) L' (S))) t) : Steps p.tables e below (T.setTop (mkF m pc Ls (.long v :: S))) t := XS.lstoreN X.here hx rfl hd rfl hl k
theorem o_astore (X : Stand p l e R s m args below meth c T locs cells slots) (hx : p.tables.exec = Jvm.exec) {i : Nat} {v : Value} (hd : decode c.code pc = .ok (.astore i, 2)) (hv : v.isRef = true) (hl : storeLocals Ls i v = some L') (k : Steps p.tables e below (T.setTop (mkF m (pc + 2) L' (S))) t) : Steps p.tables e below (T.setTop (mkF m pc Ls (v :: S))) t := XS.astore X.here hx rfl hd rfl hv hl k
theorem o_iconst (X : Stand p l e R s m args below meth c T locs cells slots) (hx : p.tables.exec = Jvm.exec) {i : Int} {v : Int32} (hd : decode c.code pc = .ok (.iconst i, 1)) (hv : v = Int32.ofInt i) (k : Steps p.tables e below (T.setTop (mkF m (pc + 1) Ls (.int v :: S))) t) : Steps p.tables e below (T.setTop (mkF m pc Ls (S))) t := XS.iconst X.here hx rfl hd (hv ▸ k)
theorem o_bipush (X : Stand p l e R s m args below meth c T locs cells slots) (hx : p.tables.exec = Jvm.exec) {i : Int} {v : Int32} (hd : decode c.code pc = .ok (.bipush i, 2)) (hv : v = (Int8.ofInt i).toInt32) (k : Steps p.tables e below (T.setTop (mkF m (pc + 2) Ls (.int v :: S))) t) : Steps p.tables e below (T.setTop (mkF m pc Ls (S))) t := XS.bipush X.here hx rfl hd (hv ▸ k)
theorem o_lconst (X : Stand p l e R s m args below meth c T locs cells slots) (hx : p.tables.exec = Jvm.exec) {i : Fin 2} {v : Int64} (hd : decode c.code pc = .ok (.lconst i, 1)) (hv : v = Int64.ofNat i) (k : Steps p.tables e below (T.setTop (mkF m (pc + 1) Ls (.long v :: S))) t) : Steps p.tables e below (T.setTop (mkF m pc Ls (S))) t := XS.lconst X.here hx rfl hd (hv ▸ k)
theorem o_ldc (X : Stand p l e R s m args below meth c T locs cells slots) (hx : p.tables.exec = Jvm.exec) {own : String} {i : Nat} {v : Int32} (ho : s.vm.findClass own = some m.cls) (w : (Cond.constant own i v).before args s = true) (hd : decode c.code pc = .ok (.ldc i, 2))  (k : Steps p.tables e below (T.setTop (mkF m (pc + 2) Ls (.int v :: S))) t) : Steps p.tables e below (T.setTop (mkF m pc Ls (S))) t := X.ldcInt hx ho w (g := mkF m pc Ls S) rfl hd _ k
theorem o_iadd (X : Stand p l e R s m args below meth c T locs cells slots) (hx : p.tables.exec = Jvm.exec) {x y : Int32} (hd : decode c.code pc = .ok (.iadd, 1))  (k : Steps p.tables e below (T.setTop (mkF m (pc + 1) Ls (.int (x + y) :: S))) t) : Steps p.tables e below (T.setTop (mkF m pc Ls (.int y :: .int x :: S))) t := XS.iadd X.here hx rfl hd rfl k
theorem o_iaddE (X : Stand p l e R s m args below meth c T locs cells slots) (hx : p.tables.exec = Jvm.exec) {x y v : Int32} (hd : decode c.code pc = .ok (.iadd, 1)) (hv : v = x + y) (k : Steps p.tables e below (T.setTop (mkF m (pc + 1) Ls (.int v :: S))) t) : Steps p.tables e below (T.setTop (mkF m pc Ls (.int y :: .int x :: S))) t := XS.iadd X.here hx rfl hd rfl (hv ▸ k)
theorem o_isubE (X : Stand p l e R s m args below meth c T locs cells slots) (hx : p.tables.exec = Jvm.exec) {x y v : Int32} (hd : decode c.code pc = .ok (.isub, 1)) (hv : v = x - y) (k : Steps p.tables e below (T.setTop (mkF m (pc + 1) Ls (.int v :: S))) t) : Steps p.tables e below (T.setTop (mkF m pc Ls (.int y :: .int x :: S))) t := XS.isub X.here hx rfl hd rfl (hv ▸ k)
theorem o_imul (X : Stand p l e R s m args below meth c T locs cells slots) (hx : p.tables.exec = Jvm.exec) {x y : Int32} (hd : decode c.code pc = .ok (.imul, 1))  (k : Steps p.tables e below (T.setTop (mkF m (pc + 1) Ls (.int (x * y) :: S))) t) : Steps p.tables e below (T.setTop (mkF m pc Ls (.int y :: .int x :: S))) t := XS.imul X.here hx rfl hd rfl k
theorem o_imulE (X : Stand p l e R s m args below meth c T locs cells slots) (hx : p.tables.exec = Jvm.exec) {x y v : Int32} (hd : decode c.code pc = .ok (.imul, 1)) (hv : v = x * y) (k : Steps p.tables e below (T.setTop (mkF m (pc + 1) Ls (.int v :: S))) t) : Steps p.tables e below (T.setTop (mkF m pc Ls (.int y :: .int x :: S))) t := XS.imul X.here hx rfl hd rfl (hv ▸ k)
theorem o_iand (X : Stand p l e R s m args below meth c T locs cells slots) (hx : p.tables.exec = Jvm.exec) {x y : Int32} (hd : decode c.code pc = .ok (.iand, 1))  (k : Steps p.tables e below (T.setTop (mkF m (pc + 1) Ls (.int (x &&& y) :: S))) t) : Steps p.tables e below (T.setTop (mkF m pc Ls (.int y :: .int x :: S))) t := XS.iand X.here hx rfl hd rfl k
theorem o_land (X : Stand p l e R s m args below meth c T locs cells slots) (hx : p.tables.exec = Jvm.exec) {x y : Int64} (hd : decode c.code pc = .ok (.land, 1))  (k : Steps p.tables e below (T.setTop (mkF m (pc + 1) Ls (.long (x &&& y) :: S))) t) : Steps p.tables e below (T.setTop (mkF m pc Ls (.long y :: .long x :: S))) t := XS.land X.here hx rfl hd rfl k
theorem o_ixor (X : Stand p l e R s m args below meth c T locs cells slots) (hx : p.tables.exec = Jvm.exec) {x y : Int32} (hd : decode c.code pc = .ok (.ixor, 1))  (k : Steps p.tables e below (T.setTop (mkF m (pc + 1) Ls (.int (x ^^^ y) :: S))) t) : Steps p.tables e below (T.setTop (mkF m pc Ls (.int y :: .int x :: S))) t := XS.ixor X.here hx rfl hd rfl k
theorem o_lxor (X : Stand p l e R s m args below meth c T locs cells slots) (hx : p.tables.exec = Jvm.exec) {x y : Int64} (hd : decode c.code pc = .ok (.lxor, 1))  (k : Steps p.tables e below (T.setTop (mkF m (pc + 1) Ls (.long (x ^^^ y) :: S))) t) : Steps p.tables e below (T.setTop (mkF m pc Ls (.long y :: .long x :: S))) t := XS.lxor X.here hx rfl hd rfl k
theorem o_l2i (X : Stand p l e R s m args below meth c T locs cells slots) (hx : p.tables.exec = Jvm.exec) {x : Int64} (hd : decode c.code pc = .ok (.l2i, 1))  (k : Steps p.tables e below (T.setTop (mkF m (pc + 1) Ls (.int (x.toInt32) :: S))) t) : Steps p.tables e below (T.setTop (mkF m pc Ls (.long x :: S))) t := XS.l2i X.here hx rfl hd rfl k
theorem o_iushr (X : Stand p l e R s m args below meth c T locs cells slots) (hx : p.tables.exec = Jvm.exec) {x : Int32} {y : Int32} (hd : decode c.code pc = .ok (.iushr, 1))  (k : Steps p.tables e below (T.setTop (mkF m (pc + 1) Ls (.int ((x.toUInt32 >>> (y &&& 31).toUInt32).toInt32) :: S))) t) : Steps p.tables e below (T.setTop (mkF m pc Ls (.int y :: .int x :: S))) t := XS.iushr X.here hx rfl hd rfl k
theorem o_lshl (X : Stand p l e R s m args below meth c T locs cells slots) (hx : p.tables.exec = Jvm.exec) {x : Int64} {y : Int32} (hd : decode c.code pc = .ok (.lshl, 1))  (k : Steps p.tables e below (T.setTop (mkF m (pc + 1) Ls (.long (x <<< (y &&& 0x3f).toInt64) :: S))) t) : Steps p.tables e below (T.setTop (mkF m pc Ls (.int y :: .long x :: S))) t := XS.lshl X.here hx rfl hd rfl k
theorem o_lushr (X : Stand p l e R s m args below meth c T locs cells slots) (hx : p.tables.exec = Jvm.exec) {x : Int64} {y : Int32} (hd : decode c.code pc = .ok (.lushr, 1))  (k : Steps p.tables e below (T.setTop (mkF m (pc + 1) Ls (.long ((x.toUInt64 >>> (y &&& 0x3f).toInt64.toUInt64).toInt64) :: S))) t) : Steps p.tables e below (T.setTop (mkF m pc Ls (.int y :: .long x :: S))) t := XS.lushr X.here hx rfl hd rfl k
theorem o_lcmp (X : Stand p l e R s m args below meth c T locs cells slots) (hx : p.tables.exec = Jvm.exec) {x y : Int64} (hd : decode c.code pc = .ok (.lcmp, 1))  (k : Steps p.tables e below (T.setTop (mkF m (pc + 1) Ls (.int (lcmpW x y) :: S))) t) : Steps p.tables e below (T.setTop (mkF m pc Ls (.long y :: .long x :: S))) t := XS.lcmp X.here hx rfl hd rfl k
theorem o_idiv (X : Stand p l e R s m args below meth c T locs cells slots) (hx : p.tables.exec = Jvm.exec) {x y : Int32} (hd : decode c.code pc = .ok (.idiv, 1)) (hy : y ≠ 0) (k : Steps p.tables e below (T.setTop (mkF m (pc + 1) Ls (.int (x / y) :: S))) t) : Steps p.tables e below (T.setTop (mkF m pc Ls (.int y :: .int x :: S))) t := XS.idiv X.here hx rfl hd rfl hy k
theorem o_irem (X : Stand p l e R s m args below meth c T locs cells slots) (hx : p.tables.exec = Jvm.exec) {x y : Int32} (hd : decode c.code pc = .ok (.irem, 1)) (hy : y ≠ 0) (k : Steps p.tables e below (T.setTop (mkF m (pc + 1) Ls (.int (x % y) :: S))) t) : Steps p.tables e below (T.setTop (mkF m pc Ls (.int y :: .int x :: S))) t := iremM X hx rfl hd rfl hy k
theorem o_iinc (X : Stand p l e R s m args below meth c T locs cells slots) (hx : p.tables.exec = Jvm.exec) {i : Nat} {cst : Int} {x : Int32} (hd : decode c.code pc = .ok (.iinc i cst, 3)) (hl : Ls[i]? = some (.val (.int x))) (hl' : storeLocals Ls i (.int (x + Int32.ofInt cst)) = some L') (k : Steps p.tables e below (T.setTop (mkF m (pc + 3) L' (S))) t) : Steps p.tables e below (T.setTop (mkF m pc Ls (S))) t := XS.iinc X.here hx rfl hd hl hl' k
theorem o_dup (X : Stand p l e R s m args below meth c T locs cells slots) (hx : p.tables.exec = Jvm.exec) {x : Value} (hd : decode c.code pc = .ok (.dup, 1)) (hc : x.category = 1) (k : Steps p.tables e below (T.setTop (mkF m (pc + 1) Ls (x :: x :: S))) t) : Steps p.tables e below (T.setTop (mkF m pc Ls (x :: S))) t := XS.dup X.here hx rfl hd rfl hc k
theorem o_dupX1 (X : Stand p l e R s m args below meth c T locs cells slots) (hx : p.tables.exec = Jvm.exec) {x y : Value} (hd : decode c.code pc = .ok (.dup_x1, 1)) (hc : x.category = 1) (hc' : y.category = 1) (k : Steps p.tables e below (T.setTop (mkF m (pc + 1) Ls (x :: y :: x :: S))) t) : Steps p.tables e below (T.setTop (mkF m pc Ls (x :: y :: S))) t := XS.dupX1 X.here hx rfl hd rfl hc hc' k
theorem o_goto (X : Stand p l e R s m args below meth c T locs cells slots) (hx : p.tables.exec = Jvm.exec) {o : Int} (hd : decode c.code pc = .ok (.goto o, 3)) (hp : ((pc : Int) + o).toNat = pc') (ho : 0 ≤ (pc : Int) + o) (k : Steps p.tables e below (T.setTop (mkF m (pc') Ls (S))) t) : Steps p.tables e below (T.setTop (mkF m pc Ls (S))) t := XS.goto X.here hx rfl rfl hd ho hp k
theorem o_ifYes (X : Stand p l e R s m args below meth c T locs cells slots) (hx : p.tables.exec = Jvm.exec) {cd : ClassFile.Cond} {x : Int32} {o : Int} (hd : decode c.code pc = .ok (.ifCond cd o, 3)) (hp : ((pc : Int) + o).toNat = pc') (ho : 0 ≤ (pc : Int) + o) (hc : ifCond.holds cd x = true) (k : Steps p.tables e below (T.setTop (mkF m (pc') Ls (S))) t) : Steps p.tables e below (T.setTop (mkF m pc Ls (.int x :: S))) t := XS.ifYes X.here hx rfl rfl hd rfl hc ho hp k
theorem o_ifNo (X : Stand p l e R s m args below meth c T locs cells slots) (hx : p.tables.exec = Jvm.exec) {cd : ClassFile.Cond} {x : Int32} {o : Int} (hd : decode c.code pc = .ok (.ifCond cd o, 3)) (hc : ifCond.holds cd x = false) (k : Steps p.tables e below (T.setTop (mkF m (pc + 3) Ls (S))) t) : Steps p.tables e below (T.setTop (mkF m pc Ls (.int x :: S))) t := XS.ifNo X.here hx rfl hd rfl hc k
theorem o_icmpYes (X : Stand p l e R s m args below meth c T locs cells slots) (hx : p.tables.exec = Jvm.exec) {cd : ClassFile.Cond} {x y : Int32} {o : Int} (hd : decode c.code pc = .ok (.if_icmp cd o, 3)) (hp : ((pc : Int) + o).toNat = pc') (ho : 0 ≤ (pc : Int) + o) (hc : if_icmp.holds cd x y = true) (k : Steps p.tables e below (T.setTop (mkF m (pc') Ls (S))) t) : Steps p.tables e below (T.setTop (mkF m pc Ls (.int y :: .int x :: S))) t := XS.icmpYes X.here hx rfl rfl hd rfl hc ho hp k
theorem o_icmpNo (X : Stand p l e R s m args below meth c T locs cells slots) (hx : p.tables.exec = Jvm.exec) {cd : ClassFile.Cond} {x y : Int32} {o : Int} (hd : decode c.code pc = .ok (.if_icmp cd o, 3)) (hc : if_icmp.holds cd x y = false) (k : Steps p.tables e below (T.setTop (mkF m (pc + 3) Ls (S))) t) : Steps p.tables e below (T.setTop (mkF m pc Ls (.int y :: .int x :: S))) t := XS.icmpNo X.here hx rfl hd rfl hc k
theorem o_len (X : Stand p l e R s m args below meth c T locs cells slots) (hx : p.tables.exec = Jvm.exec) (hZ : Z.Warmed39 s.vm) (eT : T.heap = h) {ty : FieldType} {z : Int32} (A : Arr Z h a cl ty) (Sz : cl.slots.size = z.toNatClampNeg) (Nn : ¬ z < 0) (hd : decode c.code pc = .ok (.arraylength, 1))  (k : Steps p.tables e below (T.setTop (mkF m (pc + 1) Ls (.int z :: S))) t) : Steps p.tables e below (T.setTop (mkF m pc Ls (.ref a :: S))) t := X.arraylength hx (by rw [eT]; exact A.1) (State.isArrayOf_alike hZ.alike A.2.1) (g := mkF m pc Ls (.ref a :: S)) rfl rfl hd _ (by rw [len_of Sz Nn]; exact k)
theorem o_iaload (X : Stand p l e R s m args below meth c T locs cells slots) (hx : p.tables.exec = Jvm.exec) (hZ : Z.Warmed39 s.vm) (eT : T.heap = h) {j : Int32} {v : Int32} (A : Arr Z h a cl .int) (hin : ¬ (j < 0 ∨ cl.slots.size ≤ j.toNatClampNeg)) (hat : cl.slots[j.toNatClampNeg]? = some (.int v)) (hd : decode c.code pc = .ok (.iaload, 1))  (k : Steps p.tables e below (T.setTop (mkF m (pc + 1) Ls (.int v :: S))) t) : Steps p.tables e below (T.setTop (mkF m pc Ls (.int j :: .ref a :: S))) t := X.iaload hx (j := j) (v := .int v) (by rw [eT]; exact A.1) (State.isArrayOf_alike hZ.alike A.2.1) A.2.2 hin hat (g := mkF m pc Ls (.int j :: .ref a :: S)) rfl rfl hd _ k
theorem o_laload (X : Stand p l e R s m args below meth c T locs cells slots) (hx : p.tables.exec = Jvm.exec) (hZ : Z.Warmed39 s.vm) (eT : T.heap = h) {j : Int32} {v : Int64} (A : Arr Z h a cl .long) (hin : ¬ (j < 0 ∨ cl.slots.size ≤ j.toNatClampNeg)) (hat : cl.slots[j.toNatClampNeg]? = some (.long v)) (hd : decode c.code pc = .ok (.laload, 1))  (k : Steps p.tables e below (T.setTop (mkF m (pc + 1) Ls (.long v :: S))) t) : Steps p.tables e below (T.setTop (mkF m pc Ls (.int j :: .ref a :: S))) t := X.laload hx (j := j) (v := .long v) (by rw [eT]; exact A.1) (State.isArrayOf_alike hZ.alike A.2.1) A.2.2 hin hat (g := mkF m pc Ls (.int j :: .ref a :: S)) rfl rfl hd _ k
end Steps
theorem own_nar_byte (x : Int32) : nar .byte x.toInt8.toInt32 = x.toInt8.toInt32 := by
  show x.toInt8.toInt32.toInt8.toInt32 = _
  rw [Int8.toInt8_toInt32]
theorem own_nar_short (x : Int32) : nar .short x.toInt16.toInt32 = x.toInt16.toInt32 := by
  show x.toInt16.toInt32.toInt16.toInt32 = _
  rw [Int16.toInt16_toInt32]
theorem own_nar_char (x : Int32) : nar .char x.toUInt32.toUInt16.toUInt32.toInt32 = x.toUInt32.toUInt16.toUInt32.toInt32 := by
  have h := c_i2c x
  have h2 := c_i2c (x.toUInt32.toUInt16.toUInt32.toInt32)
  show (x.toUInt32.toUInt16.toUInt32.toInt32).toUInt32.toUInt16.toUInt32.toInt32 = _
  apply Int32.toInt_inj.mp
  omega

theorem own_selp {s : State} {args : Array Value} {y : MethodName} {n : Nat} (hins : (Cond.instantiable y.cls n).before args s = true) (hpriv : (Cond.privateMethod y).before args s = true) (hinst : (Cond.instanceMethod y).before args s = true) (hy : y.cls ≠ "java/lang/invoke/MethodHandle" ∧ y.cls ≠ "java/lang/invoke/VarHandle") : (Cond.selects y.cls y y).before args s = true := by
  obtain ⟨c, k, hc, hk, -, hniab, -, -⟩ := Cond.instantiable_spec hins
  exact selects_self_of_private hc hk (Bool.or_eq_false_iff.mp hniab).1 (Cond.privateMethod_at hpriv) hinst hy

theorem d5_0 : decode jdk_35_method_36_code 0 = .ok (.lload_n 0, 1) := by decide +kernel
theorem d5_1 : decode jdk_35_method_36_code 1 = .ok (.lload_n 0, 1) := by decide +kernel
theorem d5_2 : decode jdk_35_method_36_code 2 = .ok (.bipush 32, 2) := by decide +kernel
theorem d5_4 : decode jdk_35_method_36_code 4 = .ok (.lushr, 1) := by decide +kernel
theorem d5_5 : decode jdk_35_method_36_code 5 = .ok (.lxor, 1) := by decide +kernel
theorem d5_6 : decode jdk_35_method_36_code 6 = .ok (.l2i, 1) := by decide +kernel
theorem d5_7 : decode jdk_35_method_36_code 7 = .ok (.ireturn, 1) := by decide +kernel
theorem pn_5 : plainName "java/lang/Long" = true := by first | (simp [plainName, overriddenIn]; done) | decide +kernel
theorem ef_5 (m : MethodId) (x0 : Int64) : entryFrame m #[(.long x0)] 2 = mkF m 0 #[vj x0, .second] [] := by first | (simp [entryFrame, mkF, argsToLocals, Value.category]; done) | rfl
def f5 (q1 : Int64) : Int32 := ((q1 ^^^ ((q1.toUInt64 >>> ((32 : Int32) &&& 0x3f).toInt64.toUInt64).toInt64)).toInt32)
def Q5 (Z : State) (q1 : Int64) (h0 : Heap) (n0 : Nat) (v : Option Value) (h : Heap) (L : List Loc) : Prop := v = some (.int (f5 q1)) ∧ Fr n0 L ∧ h = h0
set_option maxRecDepth 65536 in
set_option maxHeartbeats 40000000 in
theorem rm5 (l : Launch) (Z : State) (a0 : Array Value) (hw : ∀ d ∈ tables_1, d.before a0 Z = true) (ws : List Jvm.Cond) (q1 : Int64) (h0 : Heap) (n0 : Nat) (Z0 : n0 ≤ h0.size) :
    MetFree l y_0 (head1 (Jvm.Cond.code y_0 jdk_35_method_36_code 2 (some .int) :: ws) ({ frames := 0, cells := 0, slots := 0, locals := 0 } : Room)) (fun a U => a = #[(.long q1)] ∧ Z.Warmed39 U.vm ∧ U.heap = h0) (fun _ _ _ _ _ => True) (fun _ U o U' => ∃ v L, o = .returned v ∧ Q5 Z q1 h0 n0 v U'.heap L ∧ FrameEnd U o U' L ({ frames := 0, cells := 0, slots := 0, locals := 0 } : Room).cells ({ frames := 0, cells := 0, slots := 0, locals := 0 } : Room).slots) := by
  refine MetFree.of_bodySF (plainFor_of_name pn_5) hisR ?_
  intro p e s m args below meth c s₁ Bd hml0 hP hK
  obtain ⟨rfl, hZ, hh⟩ := hP
  have hx := Bd.exec
  have hby := Bd.bytes
  have hml : c.maxLocals = 2 := hml0
  have hown : s.vm.findClass "java/lang/Long" = some m.cls := findClass_of_methodNamed Bd.named
  have hnm := (name_of_methodNamed Bd.named Bd.method).1
  have X0 : Stand p l e ({ frames := 0, cells := 0, slots := 0, locals := 0 } : Room) s m #[(.long q1)] below meth c s₁ [] 0 0 := Stand.of_body Bd
  have e0 : s₁.heap = h0 := by rw [← hh, Bd.state]; rfl
  have N0 := Fr.nil n0
  obtain ⟨F0, hF0⟩ : ∃ F : JFrame, F = entryFrame m #[(.long q1)] 2 := ⟨_, rfl⟩
  have pre0 : ∀ t, Steps p.tables e below (s₁.setTop F0) t → Steps p.tables e below (s₁.setTop (entryFrame m #[(.long q1)] 2)) t := fun t k => hF0 ▸ k
  have go0 : Go p e below s₁ F0 s₁ (mkF m 0 #[vj q1, .second] []) := fun t k => castTop (hF0.trans (ef_5 m q1)) k
  have go1 : Go p e below s₁ F0 s₁ (mkF m 7 #[vj q1, .second] [(.int ((q1 ^^^ ((q1.toUInt64 >>> ((32 : Int32) &&& 0x3f).toInt64.toUInt64).toInt64)).toInt32))]) := by
    intro t_ k_
    refine go0 t_ ?_
    refine o_lloadN X0 hx (hb hby d5_0) rfl ?_
    refine o_lloadN X0 hx (hb hby d5_1) rfl ?_
    refine o_bipush X0 hx (hb hby d5_2) (v := 32) rfl ?_
    refine o_lushr X0 hx (hb hby d5_4) ?_
    refine o_lxor X0 hx (hb hby d5_5) ?_
    refine o_l2i X0 hx (hb hby d5_6) ?_
    exact k_
  obtain ⟨fs, hr, hrun, hended, hW, hsame⟩ := X0.leave (v := some (.int ((q1 ^^^ ((q1.toUInt64 >>> ((32 : Int32) &&& 0x3f).toInt64.toUInt64).toInt64)).toInt32))) (fun h => by rw [Bd.returns] at h; cases h)
  refine ⟨_, _, pre0 _ (go1 _ ?_), hrun, hended, _, _, rfl, ?_, ⟨_, rfl⟩, hW, hsame.mono (by decide) (by decide)⟩
  · skip
    exact retI X0 hx Bd.returns (hb hby d5_7) hr
  · show Q5 Z q1 h0 n0 _ s₁.heap _
    rw [e0]
    exact ⟨(congrArg (fun z => some (Value.int z)) (show ((q1 ^^^ ((q1.toUInt64 >>> ((32 : Int32) &&& 0x3f).toInt64.toUInt64).toInt64)).toInt32) = f5 q1 from by unfold f5; rfl)), N0, rfl⟩

theorem d6_0 : decode prog_63_method_12_code 0 = .ok (.iload_n 0, 1) := by decide +kernel
theorem d6_1 : decode prog_63_method_12_code 1 = .ok (.ldc 63, 2) := by decide +kernel
theorem d6_3 : decode prog_63_method_12_code 3 = .ok (.imul, 1) := by decide +kernel
theorem d6_4 : decode prog_63_method_12_code 4 = .ok (.istore_n 2, 1) := by decide +kernel
theorem d6_5 : decode prog_63_method_12_code 5 = .ok (.iload_n 2, 1) := by decide +kernel
theorem d6_6 : decode prog_63_method_12_code 6 = .ok (.iload_n 2, 1) := by decide +kernel
theorem d6_7 : decode prog_63_method_12_code 7 = .ok (.bipush 16, 2) := by decide +kernel
theorem d6_9 : decode prog_63_method_12_code 9 = .ok (.iushr, 1) := by decide +kernel
theorem d6_10 : decode prog_63_method_12_code 10 = .ok (.ixor, 1) := by decide +kernel
theorem d6_11 : decode prog_63_method_12_code 11 = .ok (.iload_n 1, 1) := by decide +kernel
theorem d6_12 : decode prog_63_method_12_code 12 = .ok (.iand, 1) := by decide +kernel
theorem d6_13 : decode prog_63_method_12_code 13 = .ok (.ireturn, 1) := by decide +kernel
theorem pn_6 : plainName "com/example/grammar_game_solver/grammargamesolver/summary/NumberedSets" = true := by first | (simp [plainName, overriddenIn]; done) | decide +kernel
theorem ef_6 (m : MethodId) (x0 : Int32) (x1 : Int32) : entryFrame m #[(.int x0), (.int x1)] 3 = mkF m 0 #[vi x0, vi x1, .unset] [] := by first | (simp [entryFrame, mkF, argsToLocals, Value.category]; done) | rfl
def f6 (p1 : Int32) (p2 : Int32) : Int32 := (((p1 * (-1640531527 : Int32)) ^^^ (((p1 * (-1640531527 : Int32)).toUInt32 >>> ((16 : Int32) &&& 31).toUInt32).toInt32)) &&& p2)
def Q6 (Z : State) (p1 : Int32) (p2 : Int32) (h0 : Heap) (n0 : Nat) (v : Option Value) (h : Heap) (L : List Loc) : Prop := v = some (.int (f6 p1 p2)) ∧ Fr n0 L ∧ h = h0
set_option maxRecDepth 65536 in
set_option maxHeartbeats 40000000 in
theorem rm6 (l : Launch) (Z : State) (a0 : Array Value) (hw : ∀ d ∈ tables_1, d.before a0 Z = true) (ws : List Jvm.Cond) (p1 : Int32) (p2 : Int32) (h0 : Heap) (n0 : Nat) (Z0 : n0 ≤ h0.size) :
    MetFree l y_1 (head1 (Jvm.Cond.code y_1 prog_63_method_12_code 3 (some .int) :: ws) ({ frames := 0, cells := 0, slots := 0, locals := 0 } : Room)) (fun a U => a = #[(.int p1), (.int p2)] ∧ Z.Warmed39 U.vm ∧ U.heap = h0) (fun _ _ _ _ _ => True) (fun _ U o U' => ∃ v L, o = .returned v ∧ Q6 Z p1 p2 h0 n0 v U'.heap L ∧ FrameEnd U o U' L ({ frames := 0, cells := 0, slots := 0, locals := 0 } : Room).cells ({ frames := 0, cells := 0, slots := 0, locals := 0 } : Room).slots) := by
  refine MetFree.of_bodySF (plainFor_of_name pn_6) hisR ?_
  intro p e s m args below meth c s₁ Bd hml0 hP hK
  obtain ⟨rfl, hZ, hh⟩ := hP
  have hx := Bd.exec
  have hby := Bd.bytes
  have hml : c.maxLocals = 3 := hml0
  have hown : s.vm.findClass "com/example/grammar_game_solver/grammargamesolver/summary/NumberedSets" = some m.cls := findClass_of_methodNamed Bd.named
  have hnm := (name_of_methodNamed Bd.named Bd.method).1
  have X0 : Stand p l e ({ frames := 0, cells := 0, slots := 0, locals := 0 } : Room) s m #[(.int p1), (.int p2)] below meth c s₁ [] 0 0 := Stand.of_body Bd
  have e0 : s₁.heap = h0 := by rw [← hh, Bd.state]; rfl
  have N0 := Fr.nil n0
  obtain ⟨F0, hF0⟩ : ∃ F : JFrame, F = entryFrame m #[(.int p1), (.int p2)] 3 := ⟨_, rfl⟩
  have pre0 : ∀ t, Steps p.tables e below (s₁.setTop F0) t → Steps p.tables e below (s₁.setTop (entryFrame m #[(.int p1), (.int p2)] 3)) t := fun t k => hF0 ▸ k
  have go0 : Go p e below s₁ F0 s₁ (mkF m 0 #[vi p1, vi p2, .unset] []) := fun t k => castTop (hF0.trans (ef_6 m p1 p2)) k
  have go1 : Go p e below s₁ F0 s₁ (mkF m 13 #[vi p1, vi p2, vi (p1 * (-1640531527 : Int32))] [(.int (((p1 * (-1640531527 : Int32)) ^^^ (((p1 * (-1640531527 : Int32)).toUInt32 >>> ((16 : Int32) &&& 31).toUInt32).toInt32)) &&& p2))]) := by
    intro t_ k_
    refine go0 t_ ?_
    refine o_iloadN X0 hx (hb hby d6_0) rfl ?_
    refine o_ldc X0 hx hown (mvT hZ (own_w hw 36 rfl)) (hb hby d6_1) ?_
    refine o_imul X0 hx (hb hby d6_3) ?_
    refine o_istoreN X0 hx (hb hby d6_4) (L' := #[vi p1, vi p2, vi (p1 * (-1640531527 : Int32))]) rfl ?_
    refine o_iloadN X0 hx (hb hby d6_5) rfl ?_
    refine o_iloadN X0 hx (hb hby d6_6) rfl ?_
    refine o_bipush X0 hx (hb hby d6_7) (v := 16) rfl ?_
    refine o_iushr X0 hx (hb hby d6_9) ?_
    refine o_ixor X0 hx (hb hby d6_10) ?_
    refine o_iloadN X0 hx (hb hby d6_11) rfl ?_
    refine o_iand X0 hx (hb hby d6_12) ?_
    exact k_
  obtain ⟨fs, hr, hrun, hended, hW, hsame⟩ := X0.leave (v := some (.int (((p1 * (-1640531527 : Int32)) ^^^ (((p1 * (-1640531527 : Int32)).toUInt32 >>> ((16 : Int32) &&& 31).toUInt32).toInt32)) &&& p2))) (fun h => by rw [Bd.returns] at h; cases h)
  refine ⟨_, _, pre0 _ (go1 _ ?_), hrun, hended, _, _, rfl, ?_, ⟨_, rfl⟩, hW, hsame.mono (by decide) (by decide)⟩
  · skip
    exact retI X0 hx Bd.returns (hb hby d6_13) hr
  · show Q6 Z p1 p2 h0 n0 _ s₁.heap _
    rw [e0]
    exact ⟨(congrArg (fun z => some (Value.int z)) (show (((p1 * (-1640531527 : Int32)) ^^^ (((p1 * (-1640531527 : Int32)).toUInt32 >>> ((16 : Int32) &&& 31).toUInt32).toInt32)) &&& p2) = f6 p1 p2 from by unfold f6; rfl)), N0, rfl⟩


theorem d1_0 : decode prog_63_method_1_code 0 = .ok (.aload_n 0, 1) := by decide +kernel
theorem d1_1 : decode prog_63_method_1_code 1 = .ok (.invokespecial 1, 3) := by decide +kernel
theorem d1_4 : decode prog_63_method_1_code 4 = .ok (.aload_n 0, 1) := by decide +kernel
theorem d1_5 : decode prog_63_method_1_code 5 = .ok (.iload_n 1, 1) := by decide +kernel
theorem d1_6 : decode prog_63_method_1_code 6 = .ok (.putfield 7, 3) := by decide +kernel
theorem d1_9 : decode prog_63_method_1_code 9 = .ok (.aload_n 0, 1) := by decide +kernel
theorem d1_10 : decode prog_63_method_1_code 10 = .ok (.bipush 16, 2) := by decide +kernel
theorem d1_12 : decode prog_63_method_1_code 12 = .ok (.iload_n 1, 1) := by decide +kernel
theorem d1_13 : decode prog_63_method_1_code 13 = .ok (.imul, 1) := by decide +kernel
theorem d1_14 : decode prog_63_method_1_code 14 = .ok (.newarray .long, 2) := by decide +kernel
theorem d1_16 : decode prog_63_method_1_code 16 = .ok (.putfield 13, 3) := by decide +kernel
theorem d1_19 : decode prog_63_method_1_code 19 = .ok (.aload_n 0, 1) := by decide +kernel
theorem d1_20 : decode prog_63_method_1_code 20 = .ok (.bipush 16, 2) := by decide +kernel
theorem d1_22 : decode prog_63_method_1_code 22 = .ok (.newarray .int, 2) := by decide +kernel
theorem d1_24 : decode prog_63_method_1_code 24 = .ok (.putfield 17, 3) := by decide +kernel
theorem d1_27 : decode prog_63_method_1_code 27 = .ok (.aload_n 0, 1) := by decide +kernel
theorem d1_28 : decode prog_63_method_1_code 28 = .ok (.bipush 32, 2) := by decide +kernel
theorem d1_30 : decode prog_63_method_1_code 30 = .ok (.newarray .int, 2) := by decide +kernel
theorem d1_32 : decode prog_63_method_1_code 32 = .ok (.putfield 21, 3) := by decide +kernel
theorem d1_35 : decode prog_63_method_1_code 35 = .ok (.return_, 1) := by decide +kernel
theorem pn_1_w1 : plainName "com/example/grammar_game_solver/grammargamesolver/summary/NumberedSets" = true := by first | (simp [plainName, overriddenIn]; done) | decide +kernel
theorem ef_1_w1 (m : MethodId) (x0 : Addr) : entryFrame m #[(.ref x0), (.int (1 : Int32))] 2 = mkF m 0 #[vr x0, vi (1 : Int32)] [] := by first | (simp [entryFrame, mkF, argsToLocals, Value.category]; done) | rfl
def Q1_w1 (Z : State) (a1 : Addr) (h0 : Heap) (n0 : Nat) (v : Option Value) (h : Heap) (L : List Loc) : Prop := ∃ bw : Addr, ∃ bh : Addr, ∃ bs : Addr, ∃ kw : ClassId, ∃ kh : ClassId, ∃ ks : ClassId, v = none ∧ Fr n0 L ∧ Keep h0 h [a1] ∧ h0.size ≤ bw ∧ h0.size ≤ bh ∧ h0.size ≤ bs ∧ bw ≠ bh ∧ bw ≠ bs ∧ bh ≠ bs ∧ Fld Z h a1 c_0 "width" "I" (.int (1 : Int32)) ∧ Fld Z h a1 c_0 "words" "[J" (.ref bw) ∧ Fld Z h a1 c_0 "hashes" "[I" (.ref bh) ∧ Fld Z h a1 c_0 "slots" "[I" (.ref bs) ∧ Fld Z h a1 c_0 "count" "I" (.int (0 : Int32)) ∧ Arv Z h bw kw .long (16 : Int32) (own_zl 16) (.long (0 : Int64)) ∧ Arv Z h bh kh .int (16 : Int32) (own_zi 16) (.int (0 : Int32)) ∧ Arv Z h bs ks .int (32 : Int32) (own_zi 32) (.int (0 : Int32))
set_option maxRecDepth 65536 in
set_option maxHeartbeats 40000000 in
theorem rm1_w1 (l : Launch) (Z : State) (a0 : Array Value) (hw : ∀ d ∈ tables_1, d.before a0 Z = true) (ws : List Jvm.Cond) (a1 : Addr) (h0 : Heap) (n0 : Nat) (Z0 : n0 ≤ h0.size) (E0 : Exa Z h0 a1 c_0) (F1 : Fld Z h0 a1 c_0 "width" "I" (.int (0 : Int32))) (F2 : Fld Z h0 a1 c_0 "words" "[J" .null) (F3 : Fld Z h0 a1 c_0 "hashes" "[I" .null) (F4 : Fld Z h0 a1 c_0 "slots" "[I" .null) (F5 : Fld Z h0 a1 c_0 "count" "I" (.int (0 : Int32))) (g1 : n0 ≤ a1) :
    MetFree l y_2 (head1 (Jvm.Cond.code y_2 prog_63_method_1_code 2 none :: ws) ({ frames := 1, cells := 3, slots := 64, locals := 12 } : Room)) (fun a U => a = #[(.ref a1), (.int (1 : Int32))] ∧ Z.Warmed39 U.vm ∧ U.heap = h0) (fun _ _ _ _ _ => True) (fun _ U o U' => ∃ v L, o = .returned v ∧ Q1_w1 Z a1 h0 n0 v U'.heap L ∧ FrameEnd U o U' L ({ frames := 1, cells := 3, slots := 64, locals := 12 } : Room).cells ({ frames := 1, cells := 3, slots := 64, locals := 12 } : Room).slots) := by
  refine MetFree.of_bodySF (plainFor_of_name pn_1_w1) hisR ?_
  intro p e s m args below meth c s₁ Bd hml0 hP hK
  obtain ⟨rfl, hZ, hh⟩ := hP
  have hx := Bd.exec
  have hby := Bd.bytes
  have hml : c.maxLocals = 2 := hml0
  have hown : s.vm.findClass "com/example/grammar_game_solver/grammargamesolver/summary/NumberedSets" = some m.cls := findClass_of_methodNamed Bd.named
  have hnm := (name_of_methodNamed Bd.named Bd.method).1
  have X0 : Stand p l e ({ frames := 1, cells := 3, slots := 64, locals := 12 } : Room) s m #[(.ref a1), (.int (1 : Int32))] below meth c s₁ [] 0 0 := Stand.of_body Bd
  have e0 : s₁.heap = h0 := by rw [← hh, Bd.state]; rfl
  have N0 := Fr.nil n0
  have K0 : Keep h0 h0 [a1] := Keep.refl h0 [a1]
  obtain ⟨F0, hF0⟩ : ∃ F : JFrame, F = entryFrame m #[(.ref a1), (.int (1 : Int32))] 2 := ⟨_, rfl⟩
  have pre0 : ∀ t, Steps p.tables e below (s₁.setTop F0) t → Steps p.tables e below (s₁.setTop (entryFrame m #[(.ref a1), (.int (1 : Int32))] 2)) t := fun t k => hF0 ▸ k
  have go0 : Go p e below s₁ F0 s₁ (mkF m 0 #[vr a1, vi (1 : Int32)] []) := fun t k => castTop (hF0.trans (ef_1_w1 m a1)) k
  have go1 : Go p e below s₁ F0 s₁ (mkF m 1 #[vr a1, vi (1 : Int32)] [(.ref a1)]) := by
    intro t_ k_
    refine go0 t_ ?_
    refine o_aloadN X0 hx (hb hby d1_0) rfl rfl ?_
    exact k_
  obtain ⟨T2, X2, e2, st2⟩ := initO X0 hx hZ hown (own_w hw 8 rfl) (own_w hw 9 rfl) (own_w hw 10 rfl) e0 (g := (mkF m 1 #[vr a1, vi (1 : Int32)] [(.ref a1)])) rfl (by rw [hml]; rfl) rfl (hb hby d1_1) (by decide) (W := 0) (by show 2 * 0 + _ ≤ _; exact Nat.le_of_eq rfl) (by decide)
  have go3 : Go p e below s₁ F0 T2 (mkF m 4 #[vr a1, vi (1 : Int32)] []) := fun t_ k_ => go1 t_ (st2 t_ k_)
  have go4 : Go p e below s₁ F0 T2 (mkF m 6 #[vr a1, vi (1 : Int32)] [(.int (1 : Int32)), (.ref a1)]) := by
    intro t_ k_
    refine go3 t_ ?_
    refine o_aloadN X2 hx (hb hby d1_4) rfl rfl ?_
    refine o_iloadN X2 hx (hb hby d1_5) rfl ?_
    exact k_
  obtain ⟨T5, h5, X5, e5, W5, st5⟩ := putF X2 hx hZ hown (host := "") (Or.inl (own_w hw 11 rfl)) Via.refl e2 F1 E0 (Or.inr ⟨(own_w hw 12 rfl), rfl, hnm⟩) (own_w hw 3 rfl) (ty := .int) (by decide) rfl rfl (g := (mkF m 6 #[vr a1, vi (1 : Int32)] [(.int (1 : Int32)), (.ref a1)])) rfl rfl (hb hby d1_6)
  have Fw5 : Fld Z h5 a1 c_0 "width" "I" (.int (1 : Int32)) := Fld.same W5 F1
  have K6 : Keep h0 h5 [a1] := K0.wr W5 (Or.inl (List.mem_of_getElem? (i := 0) rfl))
  have Z6 : n0 ≤ h5.size := Nat.le_trans Z0 (Keep.of_wr W5).1
  have N5 := Fr.snoc X5 N0 g1
  have go7 : Go p e below s₁ F0 T5 (mkF m 9 #[vr a1, vi (1 : Int32)] []) := fun t_ k_ => go4 t_ (st5 t_ k_)
  have go8 : Go p e below s₁ F0 T5 (mkF m 14 #[vr a1, vi (1 : Int32)] [(.int (16 : Int32)), (.ref a1)]) := by
    intro t_ k_
    refine go7 t_ ?_
    refine o_aloadN X5 hx (hb hby d1_9) rfl rfl ?_
    refine o_bipush X5 hx (hb hby d1_10) (v := 16) rfl ?_
    refine o_iloadN X5 hx (hb hby d1_12) rfl ?_
    refine o_imulE X5 hx (hb hby d1_13) (v := 16) rfl ?_
    exact k_
  obtain ⟨T9, h9, k9, X9, e9, E9, A9, st9⟩ := newP X5 hx hZ (own_w hw 0 rfl) e5 (g := (mkF m 14 #[vr a1, vi (1 : Int32)] [(.int (16 : Int32)), (.ref a1)])) rfl (hb hby d1_14) rfl (by decide) (cap := 16) (by decide) (by decide) (by decide) (by decide)
  obtain ⟨b9, gz9⟩ : ∃ z, z = h5.size := ⟨_, rfl⟩
  rw [← gz9] at A9 st9
  have F10 : Exa Z h5 a1 c_0 := (E0.wr W5)
  have ne11 : a1 ≠ b9 := Nat.ne_of_lt (Nat.lt_of_lt_of_le F10.lt (Nat.le_of_eq gz9.symm))
  have g_b9 : n0 ≤ b9 := Nat.le_trans Z6 (Nat.le_of_eq gz9.symm)
  have sz_b9 : h0.size ≤ b9 := Nat.le_trans K6.1 (Nat.le_of_eq gz9.symm)
  have K12 : Keep h0 h9 [a1] := K6.ext E9
  have Z12 : n0 ≤ h9.size := Nat.le_trans Z6 E9.1
  have V9 : Arv Z h9 b9 k9 .long (16 : Int32) (own_zl 16) (.long (0 : Int64)) := (Arv.new A9 (by decide)).pad (pad_rep [] (.long (0 : Int64)) 16)
  have go13 : Go p e below s₁ F0 T9 (mkF m 16 #[vr a1, vi (1 : Int32)] [(.ref b9), (.ref a1)]) := fun t_ k_ => go8 t_ (st9 t_ k_)
  have F14 : Exa Z h9 a1 c_0 := (F10.ext E9)
  have F15 : Fld Z h9 a1 c_0 "words" "[J" .null := ((F2.other W5 (Or.inr (slot_ne (Or.inl (own_w hw 14 rfl)) (Or.inr (own_w hw 12 rfl)) (by decide) (t := (.array .long)) (t' := .int) (by decide) (by decide)))).ext E9)
  obtain ⟨T16, h16, X16, e16, W16, st16⟩ := putF X9 hx hZ hown (host := "") (Or.inl (own_w hw 13 rfl)) Via.refl e9 F15 F14 (Or.inl (own_w hw 14 rfl)) (own_w hw 3 rfl) (ty := (.array .long)) (by decide) rfl rfl (g := (mkF m 16 #[vr a1, vi (1 : Int32)] [(.ref b9), (.ref a1)])) rfl rfl (hb hby d1_16)
  have Fw16 : Fld Z h16 a1 c_0 "words" "[J" (.ref b9) := Fld.same W16 F15
  have K17 : Keep h0 h16 [a1] := K12.wr W16 (Or.inl (List.mem_of_getElem? (i := 0) rfl))
  have Z17 : n0 ≤ h16.size := Nat.le_trans Z12 (Keep.of_wr W16).1
  have N16 := Fr.snoc X16 N5 g1
  have go18 : Go p e below s₁ F0 T16 (mkF m 19 #[vr a1, vi (1 : Int32)] []) := fun t_ k_ => go13 t_ (st16 t_ k_)
  have go19 : Go p e below s₁ F0 T16 (mkF m 22 #[vr a1, vi (1 : Int32)] [(.int (16 : Int32)), (.ref a1)]) := by
    intro t_ k_
    refine go18 t_ ?_
    refine o_aloadN X16 hx (hb hby d1_19) rfl rfl ?_
    refine o_bipush X16 hx (hb hby d1_20) (v := 16) rfl ?_
    exact k_
  obtain ⟨T20, h20, k20, X20, e20, E20, A20, st20⟩ := newP X16 hx hZ (own_w hw 15 rfl) e16 (g := (mkF m 22 #[vr a1, vi (1 : Int32)] [(.int (16 : Int32)), (.ref a1)])) rfl (hb hby d1_22) rfl (by decide) (cap := 16) (by decide) (by decide) (by decide) (by decide)
  obtain ⟨b20, gz20⟩ : ∃ z, z = h16.size := ⟨_, rfl⟩
  rw [← gz20] at A20 st20
  have F21 : Exa Z h16 a1 c_0 := (F14.wr W16)
  have ne22 : a1 ≠ b20 := Nat.ne_of_lt (Nat.lt_of_lt_of_le F21.lt (Nat.le_of_eq gz20.symm))
  have F23 : Arv Z h16 b9 k9 .long (16 : Int32) (own_zl 16) (.long (0 : Int64)) := (V9.other W16 (Ne.symm ne11))
  have ne24 : b9 ≠ b20 := Nat.ne_of_lt (Nat.lt_of_lt_of_le F23.lt (Nat.le_of_eq gz20.symm))
  have g_b20 : n0 ≤ b20 := Nat.le_trans Z17 (Nat.le_of_eq gz20.symm)
  have sz_b20 : h0.size ≤ b20 := Nat.le_trans K17.1 (Nat.le_of_eq gz20.symm)
  have K25 : Keep h0 h20 [a1] := K17.ext E20
  have Z25 : n0 ≤ h20.size := Nat.le_trans Z17 E20.1
  have V20 : Arv Z h20 b20 k20 .int (16 : Int32) (own_zi 16) (.int (0 : Int32)) := (Arv.new A20 (by decide)).pad (pad_rep [] (.int (0 : Int32)) 16)
  have go26 : Go p e below s₁ F0 T20 (mkF m 24 #[vr a1, vi (1 : Int32)] [(.ref b20), (.ref a1)]) := fun t_ k_ => go19 t_ (st20 t_ k_)
  have F27 : Exa Z h20 a1 c_0 := (F21.ext E20)
  have F28 : Fld Z h20 a1 c_0 "hashes" "[I" .null := ((((F3.other W5 (Or.inr (slot_ne (Or.inl (own_w hw 17 rfl)) (Or.inr (own_w hw 12 rfl)) (by decide) (t := (.array .int)) (t' := .int) (by decide) (by decide)))).ext E9).other W16 (Or.inr (slot_ne (Or.inl (own_w hw 17 rfl)) (Or.inl (own_w hw 14 rfl)) (by decide) (t := (.array .int)) (t' := (.array .long)) (by decide) (by decide)))).ext E20)
  obtain ⟨T29, h29, X29, e29, W29, st29⟩ := putF X20 hx hZ hown (host := "") (Or.inl (own_w hw 16 rfl)) Via.refl e20 F28 F27 (Or.inl (own_w hw 17 rfl)) (own_w hw 3 rfl) (ty := (.array .int)) (by decide) rfl rfl (g := (mkF m 24 #[vr a1, vi (1 : Int32)] [(.ref b20), (.ref a1)])) rfl rfl (hb hby d1_24)
  have Fw29 : Fld Z h29 a1 c_0 "hashes" "[I" (.ref b20) := Fld.same W29 F28
  have K30 : Keep h0 h29 [a1] := K25.wr W29 (Or.inl (List.mem_of_getElem? (i := 0) rfl))
  have Z30 : n0 ≤ h29.size := Nat.le_trans Z25 (Keep.of_wr W29).1
  have N29 := Fr.snoc X29 N16 g1
  have go31 : Go p e below s₁ F0 T29 (mkF m 27 #[vr a1, vi (1 : Int32)] []) := fun t_ k_ => go26 t_ (st29 t_ k_)
  have go32 : Go p e below s₁ F0 T29 (mkF m 30 #[vr a1, vi (1 : Int32)] [(.int (32 : Int32)), (.ref a1)]) := by
    intro t_ k_
    refine go31 t_ ?_
    refine o_aloadN X29 hx (hb hby d1_27) rfl rfl ?_
    refine o_bipush X29 hx (hb hby d1_28) (v := 32) rfl ?_
    exact k_
  obtain ⟨T33, h33, k33, X33, e33, E33, A33, st33⟩ := newP X29 hx hZ (own_w hw 15 rfl) e29 (g := (mkF m 30 #[vr a1, vi (1 : Int32)] [(.int (32 : Int32)), (.ref a1)])) rfl (hb hby d1_30) rfl (by decide) (cap := 32) (by decide) (by decide) (by decide) (by decide)
  obtain ⟨b33, gz33⟩ : ∃ z, z = h29.size := ⟨_, rfl⟩
  rw [← gz33] at A33 st33
  have F34 : Exa Z h29 a1 c_0 := (F27.wr W29)
  have ne35 : a1 ≠ b33 := Nat.ne_of_lt (Nat.lt_of_lt_of_le F34.lt (Nat.le_of_eq gz33.symm))
  have F36 : Arv Z h29 b9 k9 .long (16 : Int32) (own_zl 16) (.long (0 : Int64)) := ((F23.ext E20).other W29 (Ne.symm ne11))
  have ne37 : b9 ≠ b33 := Nat.ne_of_lt (Nat.lt_of_lt_of_le F36.lt (Nat.le_of_eq gz33.symm))
  have F38 : Arv Z h29 b20 k20 .int (16 : Int32) (own_zi 16) (.int (0 : Int32)) := (V20.other W29 (Ne.symm ne22))
  have ne39 : b20 ≠ b33 := Nat.ne_of_lt (Nat.lt_of_lt_of_le F38.lt (Nat.le_of_eq gz33.symm))
  have g_b33 : n0 ≤ b33 := Nat.le_trans Z30 (Nat.le_of_eq gz33.symm)
  have sz_b33 : h0.size ≤ b33 := Nat.le_trans K30.1 (Nat.le_of_eq gz33.symm)
  have K40 : Keep h0 h33 [a1] := K30.ext E33
  have Z40 : n0 ≤ h33.size := Nat.le_trans Z30 E33.1
  have V33 : Arv Z h33 b33 k33 .int (32 : Int32) (own_zi 32) (.int (0 : Int32)) := (Arv.new A33 (by decide)).pad (pad_rep [] (.int (0 : Int32)) 32)
  have go41 : Go p e below s₁ F0 T33 (mkF m 32 #[vr a1, vi (1 : Int32)] [(.ref b33), (.ref a1)]) := fun t_ k_ => go32 t_ (st33 t_ k_)
  have F42 : Exa Z h33 a1 c_0 := (F34.ext E33)
  have F43 : Fld Z h33 a1 c_0 "slots" "[I" .null := ((((((F4.other W5 (Or.inr (slot_ne (Or.inl (own_w hw 19 rfl)) (Or.inr (own_w hw 12 rfl)) (by decide) (t := (.array .int)) (t' := .int) (by decide) (by decide)))).ext E9).other W16 (Or.inr (slot_ne (Or.inl (own_w hw 19 rfl)) (Or.inl (own_w hw 14 rfl)) (by decide) (t := (.array .int)) (t' := (.array .long)) (by decide) (by decide)))).ext E20).other W29 (Or.inr (slot_ne (Or.inl (own_w hw 19 rfl)) (Or.inl (own_w hw 17 rfl)) (by decide) (t := (.array .int)) (t' := (.array .int)) (by decide) (by decide)))).ext E33)
  obtain ⟨T44, h44, X44, e44, W44, st44⟩ := putF X33 hx hZ hown (host := "") (Or.inl (own_w hw 18 rfl)) Via.refl e33 F43 F42 (Or.inl (own_w hw 19 rfl)) (own_w hw 3 rfl) (ty := (.array .int)) (by decide) rfl rfl (g := (mkF m 32 #[vr a1, vi (1 : Int32)] [(.ref b33), (.ref a1)])) rfl rfl (hb hby d1_32)
  have Fw44 : Fld Z h44 a1 c_0 "slots" "[I" (.ref b33) := Fld.same W44 F43
  have K45 : Keep h0 h44 [a1] := K40.wr W44 (Or.inl (List.mem_of_getElem? (i := 0) rfl))
  have Z45 : n0 ≤ h44.size := Nat.le_trans Z40 (Keep.of_wr W44).1
  have N44 := Fr.snoc X44 N29 g1
  have go46 : Go p e below s₁ F0 T44 (mkF m 35 #[vr a1, vi (1 : Int32)] []) := fun t_ k_ => go41 t_ (st44 t_ k_)
  obtain ⟨fs, hr, hrun, hended, hW, hsame⟩ := X44.leave (v := none) (fun _ => rfl)
  refine ⟨_, _, pre0 _ (go46 _ ?_), hrun, hended, _, _, rfl, ?_, ⟨_, rfl⟩, hW, hsame.mono (by decide) (by decide)⟩
  · skip
    exact X44.returnOut hx Bd.returns (hb hby d1_35) hr
  · show Q1_w1 Z a1 h0 n0 _ T44.heap _
    rw [e44]
    have F47 : Fld Z h44 a1 c_0 "width" "I" (.int (1 : Int32)) := ((((((Fw5.ext E9).other W16 (Or.inr (slot_ne (Or.inr (own_w hw 12 rfl)) (Or.inl (own_w hw 14 rfl)) (by decide) (t := .int) (t' := (.array .long)) (by decide) (by decide)))).ext E20).other W29 (Or.inr (slot_ne (Or.inr (own_w hw 12 rfl)) (Or.inl (own_w hw 17 rfl)) (by decide) (t := .int) (t' := (.array .int)) (by decide) (by decide)))).ext E33).other W44 (Or.inr (slot_ne (Or.inr (own_w hw 12 rfl)) (Or.inl (own_w hw 19 rfl)) (by decide) (t := .int) (t' := (.array .int)) (by decide) (by decide))))
    have F48 : Fld Z h44 a1 c_0 "words" "[J" (.ref b9) := ((((Fw16.ext E20).other W29 (Or.inr (slot_ne (Or.inl (own_w hw 14 rfl)) (Or.inl (own_w hw 17 rfl)) (by decide) (t := (.array .long)) (t' := (.array .int)) (by decide) (by decide)))).ext E33).other W44 (Or.inr (slot_ne (Or.inl (own_w hw 14 rfl)) (Or.inl (own_w hw 19 rfl)) (by decide) (t := (.array .long)) (t' := (.array .int)) (by decide) (by decide))))
    have F49 : Fld Z h44 a1 c_0 "hashes" "[I" (.ref b20) := ((Fw29.ext E33).other W44 (Or.inr (slot_ne (Or.inl (own_w hw 17 rfl)) (Or.inl (own_w hw 19 rfl)) (by decide) (t := (.array .int)) (t' := (.array .int)) (by decide) (by decide))))
    have F50 : Fld Z h44 a1 c_0 "count" "I" (.int (0 : Int32)) := (((((((F5.other W5 (Or.inr (slot_ne (Or.inl (own_w hw 38 rfl)) (Or.inr (own_w hw 12 rfl)) (by decide) (t := .int) (t' := .int) (by decide) (by decide)))).ext E9).other W16 (Or.inr (slot_ne (Or.inl (own_w hw 38 rfl)) (Or.inl (own_w hw 14 rfl)) (by decide) (t := .int) (t' := (.array .long)) (by decide) (by decide)))).ext E20).other W29 (Or.inr (slot_ne (Or.inl (own_w hw 38 rfl)) (Or.inl (own_w hw 17 rfl)) (by decide) (t := .int) (t' := (.array .int)) (by decide) (by decide)))).ext E33).other W44 (Or.inr (slot_ne (Or.inl (own_w hw 38 rfl)) (Or.inl (own_w hw 19 rfl)) (by decide) (t := .int) (t' := (.array .int)) (by decide) (by decide))))
    have F51 : Arv Z h44 b9 k9 .long (16 : Int32) (own_zl 16) (.long (0 : Int64)) := ((F36.ext E33).other W44 (Ne.symm ne11))
    have F52 : Arv Z h44 b20 k20 .int (16 : Int32) (own_zi 16) (.int (0 : Int32)) := ((F38.ext E33).other W44 (Ne.symm ne22))
    have F53 : Arv Z h44 b33 k33 .int (32 : Int32) (own_zi 32) (.int (0 : Int32)) := (V33.other W44 (Ne.symm ne35))
    exact ⟨b9, b20, b33, k9, k20, k33, rfl, N44, K45, sz_b9, sz_b20, sz_b33, ne24, ne37, ne39, F47, F48, F49, Fw44, F50, F51, F52, F53⟩


def own_sl (t : Int32) : List Value := (own_zi 32).set t.toNatClampNeg (.int (1 : Int32))
theorem own_z (n : Nat) : (own_zi 32).getD n (.int (0 : Int32)) = .int (0 : Int32) := by
  rw [List.getD_eq_getElem?_getD, List.getElem?_replicate]; split <;> rfl
theorem own_in {h t : Int32} (e : t = (f6 h (31 : Int32))) : ¬ t < 0 ∧ t < (32 : Int32) := by
  subst e; unfold f6
  have q : ∀ x : Int32, (x &&& (31 : Int32)).toInt = x.toInt % 32 := fun x => c_mask x 31 5 (by decide) (by decide)
  simp only [Int32.lt_iff_toInt_lt, q, show (0 : Int32).toInt = 0 from rfl, show (32 : Int32).toInt = 32 from rfl]
  omega
theorem own_lz {h t : Int32} (e : t = (f6 h (31 : Int32))) : t.toNatClampNeg < (own_zi 32).length := by
  have q := own_in e
  rw [List.length_replicate]
  simp only [Int32.lt_iff_toInt_lt, show (0 : Int32).toInt = 0 from rfl, show (32 : Int32).toInt = 32 from rfl, Int32.toNatClampNeg] at *
  omega

theorem own_in2 {x t : Int32} (e : t = (x &&& (31 : Int32))) : ¬ t < 0 ∧ t < (32 : Int32) := by
  subst e
  have q : (x &&& (31 : Int32)).toInt = x.toInt % 32 := c_mask x 31 5 (by decide) (by decide)
  simp only [Int32.lt_iff_toInt_lt, q, show (0 : Int32).toInt = 0 from rfl, show (32 : Int32).toInt = 32 from rfl]
  omega
theorem own_lt32 {t : Int32} (q : ¬ t < 0 ∧ t < (32 : Int32)) : t.toNatClampNeg < 32 := by
  simp only [Int32.lt_iff_toInt_lt, show (0 : Int32).toInt = 0 from rfl, show (32 : Int32).toInt = 32 from rfl, Int32.toNatClampNeg] at *
  omega
theorem own_ls {t sl : Int32} (q : ¬ t < 0 ∧ t < (32 : Int32)) : t.toNatClampNeg < (own_sl sl).length := by
  unfold own_sl
  rw [List.length_set, List.length_replicate]
  exact own_lt32 q
theorem own_hit {t sl : Int32} (q : ¬ sl < 0 ∧ sl < (32 : Int32)) (e : t = sl) : (own_sl sl).getD t.toNatClampNeg (.int (0 : Int32)) = .int (1 : Int32) := by
  subst e
  unfold own_sl
  rw [List.getD_eq_getElem?_getD, List.getElem?_set_self (by rw [List.length_replicate]; exact own_lt32 q)]
  rfl
theorem own_miss {t sl : Int32} (q1 : ¬ t < 0 ∧ t < (32 : Int32)) (q : ¬ sl < 0 ∧ sl < (32 : Int32)) (e : ¬ t = sl) : (own_sl sl).getD t.toNatClampNeg (.int (0 : Int32)) = .int (0 : Int32) := by
  unfold own_sl
  have ne : sl.toNatClampNeg ≠ t.toNatClampNeg := by
    intro z
    apply e
    apply Int32.toInt_inj.mp
    simp only [Int32.lt_iff_toInt_lt, show (0 : Int32).toInt = 0 from rfl, show (32 : Int32).toInt = 32 from rfl, Int32.toNatClampNeg] at *
    omega
  rw [List.getD_eq_getElem?_getD, List.getElem?_set_ne ne, ← List.getD_eq_getElem?_getD]
  exact own_z _
theorem own_next {t t2 sl : Int32} (q : ¬ sl < 0 ∧ sl < (32 : Int32)) (e : t = sl) (h : t2 = ((t + (1 : Int32)) &&& (31 : Int32))) : ¬ t2 = sl := by
  subst e
  intro z
  have a : ((t + (1 : Int32)) &&& (31 : Int32)).toInt = (t + (1 : Int32)).toInt % 32 := c_mask _ 31 5 (by decide) (by decide)
  have b := c_iadd t (1 : Int32)
  rw [← h, z] at a
  have := (t + (1 : Int32)).toInt_lt; have := (t + (1 : Int32)).le_toInt
  simp only [Int32.lt_iff_toInt_lt, show (0 : Int32).toInt = 0 from rfl, show (32 : Int32).toInt = 32 from rfl, show (1 : Int32).toInt = 1 from rfl] at *
  omega

theorem d4_0 : decode prog_63_method_6_code 0 = .ok (.iconst 1, 1) := by decide +kernel
theorem d4_1 : decode prog_63_method_6_code 1 = .ok (.istore_n 3, 1) := by decide +kernel
theorem d4_2 : decode prog_63_method_6_code 2 = .ok (.iconst 0, 1) := by decide +kernel
theorem d4_3 : decode prog_63_method_6_code 3 = .ok (.istore 4, 2) := by decide +kernel
theorem d4_5 : decode prog_63_method_6_code 5 = .ok (.iload 4, 2) := by decide +kernel
theorem d4_7 : decode prog_63_method_6_code 7 = .ok (.aload_n 0, 1) := by decide +kernel
theorem d4_8 : decode prog_63_method_6_code 8 = .ok (.getfield 7, 3) := by decide +kernel
theorem d4_11 : decode prog_63_method_6_code 11 = .ok (.if_icmp .ge 24, 3) := by decide +kernel
theorem d4_14 : decode prog_63_method_6_code 14 = .ok (.bipush 31, 2) := by decide +kernel
theorem d4_16 : decode prog_63_method_6_code 16 = .ok (.iload_n 3, 1) := by decide +kernel
theorem d4_17 : decode prog_63_method_6_code 17 = .ok (.imul, 1) := by decide +kernel
theorem d4_18 : decode prog_63_method_6_code 18 = .ok (.aload_n 1, 1) := by decide +kernel
theorem d4_19 : decode prog_63_method_6_code 19 = .ok (.iload_n 2, 1) := by decide +kernel
theorem d4_20 : decode prog_63_method_6_code 20 = .ok (.iload 4, 2) := by decide +kernel
theorem d4_22 : decode prog_63_method_6_code 22 = .ok (.iadd, 1) := by decide +kernel
theorem d4_23 : decode prog_63_method_6_code 23 = .ok (.laload, 1) := by decide +kernel
theorem d4_24 : decode prog_63_method_6_code 24 = .ok (.invokestatic 31, 3) := by decide +kernel
theorem d4_27 : decode prog_63_method_6_code 27 = .ok (.iadd, 1) := by decide +kernel
theorem d4_28 : decode prog_63_method_6_code 28 = .ok (.istore_n 3, 1) := by decide +kernel
theorem d4_29 : decode prog_63_method_6_code 29 = .ok (.iinc 4 1, 3) := by decide +kernel
theorem d4_32 : decode prog_63_method_6_code 32 = .ok (.goto (-27), 3) := by decide +kernel
theorem d4_35 : decode prog_63_method_6_code 35 = .ok (.aload_n 0, 1) := by decide +kernel
theorem d4_36 : decode prog_63_method_6_code 36 = .ok (.getfield 21, 3) := by decide +kernel
theorem d4_39 : decode prog_63_method_6_code 39 = .ok (.arraylength, 1) := by decide +kernel
theorem d4_40 : decode prog_63_method_6_code 40 = .ok (.iconst 1, 1) := by decide +kernel
theorem d4_41 : decode prog_63_method_6_code 41 = .ok (.isub, 1) := by decide +kernel
theorem d4_42 : decode prog_63_method_6_code 42 = .ok (.istore 4, 2) := by decide +kernel
theorem d4_44 : decode prog_63_method_6_code 44 = .ok (.iload_n 3, 1) := by decide +kernel
theorem d4_45 : decode prog_63_method_6_code 45 = .ok (.iload 4, 2) := by decide +kernel
theorem d4_47 : decode prog_63_method_6_code 47 = .ok (.invokestatic 37, 3) := by decide +kernel
theorem d4_50 : decode prog_63_method_6_code 50 = .ok (.istore 5, 2) := by decide +kernel
theorem d4_52 : decode prog_63_method_6_code 52 = .ok (.aload_n 0, 1) := by decide +kernel
theorem d4_53 : decode prog_63_method_6_code 53 = .ok (.getfield 21, 3) := by decide +kernel
theorem d4_56 : decode prog_63_method_6_code 56 = .ok (.iload 5, 2) := by decide +kernel
theorem d4_58 : decode prog_63_method_6_code 58 = .ok (.iaload, 1) := by decide +kernel
theorem d4_59 : decode prog_63_method_6_code 59 = .ok (.ifCond .eq 51, 3) := by decide +kernel
theorem d4_110 : decode prog_63_method_6_code 110 = .ok (.aload_n 0, 1) := by decide +kernel
theorem d4_111 : decode prog_63_method_6_code 111 = .ok (.dup, 1) := by decide +kernel
theorem d4_112 : decode prog_63_method_6_code 112 = .ok (.getfield 24, 3) := by decide +kernel
theorem d4_115 : decode prog_63_method_6_code 115 = .ok (.dup_x1, 1) := by decide +kernel
theorem d4_116 : decode prog_63_method_6_code 116 = .ok (.iconst 1, 1) := by decide +kernel
theorem d4_117 : decode prog_63_method_6_code 117 = .ok (.iadd, 1) := by decide +kernel
theorem d4_118 : decode prog_63_method_6_code 118 = .ok (.putfield 24, 3) := by decide +kernel
theorem d4_121 : decode prog_63_method_6_code 121 = .ok (.istore 6, 2) := by decide +kernel
theorem d4_123 : decode prog_63_method_6_code 123 = .ok (.iload 6, 2) := by decide +kernel
theorem d4_125 : decode prog_63_method_6_code 125 = .ok (.aload_n 0, 1) := by decide +kernel
theorem d4_126 : decode prog_63_method_6_code 126 = .ok (.getfield 17, 3) := by decide +kernel
theorem d4_129 : decode prog_63_method_6_code 129 = .ok (.arraylength, 1) := by decide +kernel
theorem d4_130 : decode prog_63_method_6_code 130 = .ok (.if_icmp .ne 38, 3) := by decide +kernel
theorem d4_168 : decode prog_63_method_6_code 168 = .ok (.aload_n 1, 1) := by decide +kernel
theorem d4_169 : decode prog_63_method_6_code 169 = .ok (.iload_n 2, 1) := by decide +kernel
theorem d4_170 : decode prog_63_method_6_code 170 = .ok (.aload_n 0, 1) := by decide +kernel
theorem d4_171 : decode prog_63_method_6_code 171 = .ok (.getfield 13, 3) := by decide +kernel
theorem d4_174 : decode prog_63_method_6_code 174 = .ok (.iload 6, 2) := by decide +kernel
theorem d4_176 : decode prog_63_method_6_code 176 = .ok (.aload_n 0, 1) := by decide +kernel
theorem d4_177 : decode prog_63_method_6_code 177 = .ok (.getfield 7, 3) := by decide +kernel
theorem d4_180 : decode prog_63_method_6_code 180 = .ok (.imul, 1) := by decide +kernel
theorem d4_181 : decode prog_63_method_6_code 181 = .ok (.aload_n 0, 1) := by decide +kernel
theorem d4_182 : decode prog_63_method_6_code 182 = .ok (.getfield 7, 3) := by decide +kernel
theorem d4_185 : decode prog_63_method_6_code 185 = .ok (.invokestatic 54, 3) := by decide +kernel
theorem d4_188 : decode prog_63_method_6_code 188 = .ok (.aload_n 0, 1) := by decide +kernel
theorem d4_189 : decode prog_63_method_6_code 189 = .ok (.getfield 17, 3) := by decide +kernel
theorem d4_192 : decode prog_63_method_6_code 192 = .ok (.iload 6, 2) := by decide +kernel
theorem d4_194 : decode prog_63_method_6_code 194 = .ok (.iload_n 3, 1) := by decide +kernel
theorem d4_195 : decode prog_63_method_6_code 195 = .ok (.iastore, 1) := by decide +kernel
theorem d4_196 : decode prog_63_method_6_code 196 = .ok (.aload_n 0, 1) := by decide +kernel
theorem d4_197 : decode prog_63_method_6_code 197 = .ok (.getfield 21, 3) := by decide +kernel
theorem d4_200 : decode prog_63_method_6_code 200 = .ok (.iload 5, 2) := by decide +kernel
theorem d4_202 : decode prog_63_method_6_code 202 = .ok (.iload 6, 2) := by decide +kernel
theorem d4_204 : decode prog_63_method_6_code 204 = .ok (.iconst 1, 1) := by decide +kernel
theorem d4_205 : decode prog_63_method_6_code 205 = .ok (.iadd, 1) := by decide +kernel
theorem d4_206 : decode prog_63_method_6_code 206 = .ok (.iastore, 1) := by decide +kernel
theorem d4_207 : decode prog_63_method_6_code 207 = .ok (.iconst 2, 1) := by decide +kernel
theorem d4_208 : decode prog_63_method_6_code 208 = .ok (.aload_n 0, 1) := by decide +kernel
theorem d4_209 : decode prog_63_method_6_code 209 = .ok (.getfield 24, 3) := by decide +kernel
theorem d4_212 : decode prog_63_method_6_code 212 = .ok (.imul, 1) := by decide +kernel
theorem d4_213 : decode prog_63_method_6_code 213 = .ok (.aload_n 0, 1) := by decide +kernel
theorem d4_214 : decode prog_63_method_6_code 214 = .ok (.getfield 21, 3) := by decide +kernel
theorem d4_217 : decode prog_63_method_6_code 217 = .ok (.arraylength, 1) := by decide +kernel
theorem d4_218 : decode prog_63_method_6_code 218 = .ok (.if_icmp .le 7, 3) := by decide +kernel
theorem d4_225 : decode prog_63_method_6_code 225 = .ok (.iload 6, 2) := by decide +kernel
theorem d4_227 : decode prog_63_method_6_code 227 = .ok (.ireturn, 1) := by decide +kernel
theorem pn_4_a1 : plainName "com/example/grammar_game_solver/grammargamesolver/summary/NumberedSets" = true := by first | (simp [plainName, overriddenIn]; done) | decide +kernel
theorem pd4_a1_0 : parseMethodDescriptor "(J)I" = some ⟨[.long], some .int⟩ := by decide +kernel
theorem pd4_a1_1 : parseMethodDescriptor "(II)I" = some ⟨[.int, .int], some .int⟩ := by decide +kernel
theorem ef_4_a1 (m : MethodId) (x0 : Addr) (x1 : Addr) : entryFrame m #[(.ref x0), (.ref x1), (.int (0 : Int32))] 7 = mkF m 0 #[vr x0, vr x1, vi (0 : Int32), .unset, .unset, .unset, .unset] [] := by first | (simp [entryFrame, mkF, argsToLocals, Value.category]; done) | rfl
def Q4_a1 (Z : State) (a1 : Addr) (a2 : Addr) (bw : Addr) (bh : Addr) (bs : Addr) (kw : ClassId) (kh : ClassId) (ks : ClassId) (k2 : ClassId) (x0 : Int64) (x1 : Int64) (h0 : Heap) (n0 : Nat) (v : Option Value) (h : Heap) (L : List Loc) : Prop := ∃ hs : Int32, ∃ sl : Int32, v = some (.int (0 : Int32)) ∧ Fr n0 L ∧ Keep h0 h [a1, bw, bh, bs] ∧ Fld Z h a1 c_0 "width" "I" (.int (1 : Int32)) ∧ Fld Z h a1 c_0 "words" "[J" (.ref bw) ∧ Fld Z h a1 c_0 "hashes" "[I" (.ref bh) ∧ Fld Z h a1 c_0 "slots" "[I" (.ref bs) ∧ Fld Z h a1 c_0 "count" "I" (.int (1 : Int32)) ∧ Arv Z h bw kw .long (16 : Int32) ((.long x0) :: own_zl 15) (.long (0 : Int64)) ∧ Arv Z h bh kh .int (16 : Int32) ((.int hs) :: own_zi 15) (.int (0 : Int32)) ∧ Arv Z h bs ks .int (32 : Int32) (own_sl sl) (.int (0 : Int32)) ∧ (hs = ((31 : Int32) + (f5 x0))) ∧ (sl = (f6 hs (31 : Int32)))
set_option maxRecDepth 65536 in
set_option maxHeartbeats 40000000 in
theorem rm4_a1 (l : Launch) (Z : State) (a0 : Array Value) (hw : ∀ d ∈ tables_1, d.before a0 Z = true) (ws : List Jvm.Cond) (a1 : Addr) (a2 : Addr) (bw : Addr) (bh : Addr) (bs : Addr) (kw : ClassId) (kh : ClassId) (ks : ClassId) (k2 : ClassId) (x0 : Int64) (x1 : Int64) (h0 : Heap) (n0 : Nat) (Z0 : n0 ≤ h0.size) (E0 : Exa Z h0 a1 c_0) (Fwi : Fld Z h0 a1 c_0 "width" "I" (.int (1 : Int32))) (Fwo : Fld Z h0 a1 c_0 "words" "[J" (.ref bw)) (Fha : Fld Z h0 a1 c_0 "hashes" "[I" (.ref bh)) (Fsl : Fld Z h0 a1 c_0 "slots" "[I" (.ref bs)) (Fco : Fld Z h0 a1 c_0 "count" "I" (.int (0 : Int32))) (Vw : Arv Z h0 bw kw .long (16 : Int32) (own_zl 16) (.long (0 : Int64))) (Vh : Arv Z h0 bh kh .int (16 : Int32) (own_zi 16) (.int (0 : Int32))) (Vs : Arv Z h0 bs ks .int (32 : Int32) (own_zi 32) (.int (0 : Int32))) (V2 : Arv Z h0 a2 k2 .long (2 : Int32) [(.long x0), (.long x1)] (.long (0 : Int64))) (g1 : n0 ≤ a1) (gw : n0 ≤ bw) (gh : n0 ≤ bh) (gs : n0 ≤ bs) (naw : a1 ≠ bw) (nah : a1 ≠ bh) (nas : a1 ≠ bs) (n2w : a2 ≠ bw) (n2h : a2 ≠ bh) (n2s : a2 ≠ bs) (n12 : a1 ≠ a2) (nwh : bw ≠ bh) (nws : bw ≠ bs) (nhs : bh ≠ bs) :
    MetFree l y_3 (head1 (Jvm.Cond.code y_3 prog_63_method_6_code 7 (some .int) :: ws) ({ frames := 1, cells := 0, slots := 0, locals := 18 } : Room)) (fun a U => a = #[(.ref a1), (.ref a2), (.int (0 : Int32))] ∧ Z.Warmed39 U.vm ∧ U.heap = h0) (fun _ _ _ _ _ => True) (fun _ U o U' => ∃ v L, o = .returned v ∧ Q4_a1 Z a1 a2 bw bh bs kw kh ks k2 x0 x1 h0 n0 v U'.heap L ∧ FrameEnd U o U' L ({ frames := 1, cells := 0, slots := 0, locals := 18 } : Room).cells ({ frames := 1, cells := 0, slots := 0, locals := 18 } : Room).slots) := by
  refine MetFree.of_bodySF (plainFor_of_name pn_4_a1) hisR ?_
  intro p e s m args below meth c s₁ Bd hml0 hP hK
  obtain ⟨rfl, hZ, hh⟩ := hP
  have hx := Bd.exec
  have hby := Bd.bytes
  have hml : c.maxLocals = 7 := hml0
  have hown : s.vm.findClass "com/example/grammar_game_solver/grammargamesolver/summary/NumberedSets" = some m.cls := findClass_of_methodNamed Bd.named
  have hnm := (name_of_methodNamed Bd.named Bd.method).1
  have X0 : Stand p l e ({ frames := 1, cells := 0, slots := 0, locals := 18 } : Room) s m #[(.ref a1), (.ref a2), (.int (0 : Int32))] below meth c s₁ [] 0 0 := Stand.of_body Bd
  have e0 : s₁.heap = h0 := by rw [← hh, Bd.state]; rfl
  have N0 := Fr.nil n0
  have K0 : Keep h0 h0 [a1, bw, bh, bs] := Keep.refl h0 [a1, bw, bh, bs]
  obtain ⟨F0, hF0⟩ : ∃ F : JFrame, F = entryFrame m #[(.ref a1), (.ref a2), (.int (0 : Int32))] 7 := ⟨_, rfl⟩
  have pre0 : ∀ t, Steps p.tables e below (s₁.setTop F0) t → Steps p.tables e below (s₁.setTop (entryFrame m #[(.ref a1), (.ref a2), (.int (0 : Int32))] 7)) t := fun t k => hF0 ▸ k
  have go0 : Go p e below s₁ F0 s₁ (mkF m 0 #[vr a1, vr a2, vi (0 : Int32), .unset, .unset, .unset, .unset] []) := fun t k => castTop (hF0.trans (ef_4_a1 m a1 a2)) k
  have go1 : Go p e below s₁ F0 s₁ (mkF m 8 #[vr a1, vr a2, vi (0 : Int32), vi (1 : Int32), vi (0 : Int32), .unset, .unset] [(.ref a1), (.int (0 : Int32))]) := by
    intro t_ k_
    refine go0 t_ ?_
    refine o_iconst X0 hx (hb hby d4_0) (v := 1) rfl ?_
    refine o_istoreN X0 hx (hb hby d4_1) (L' := #[vr a1, vr a2, vi (0 : Int32), vi (1 : Int32), .unset, .unset, .unset]) rfl ?_
    refine o_iconst X0 hx (hb hby d4_2) (v := 0) rfl ?_
    refine o_istore X0 hx (hb hby d4_3) (L' := #[vr a1, vr a2, vi (0 : Int32), vi (1 : Int32), vi (0 : Int32), .unset, .unset]) rfl ?_
    refine o_iload X0 hx (hb hby d4_5) rfl ?_
    refine o_aloadN X0 hx (hb hby d4_7) rfl rfl ?_
    exact k_
  obtain ⟨T2, X2, e2, st2⟩ := getF X0 hx hZ hown (host := "") (Or.inl (own_w hw 11 rfl)) Via.refl e0 Fwi (g := (mkF m 8 #[vr a1, vr a2, vi (0 : Int32), vi (1 : Int32), vi (0 : Int32), .unset, .unset] [(.ref a1), (.int (0 : Int32))])) rfl rfl (hb hby d4_8)
  have go3 : Go p e below s₁ F0 T2 (mkF m 11 #[vr a1, vr a2, vi (0 : Int32), vi (1 : Int32), vi (0 : Int32), .unset, .unset] [(.int (1 : Int32)), (.int (0 : Int32))]) := fun t_ k_ => go1 t_ (st2 t_ k_)
  have go4 : Go p e below s₁ F0 T2 (mkF m 23 #[vr a1, vr a2, vi (0 : Int32), vi (1 : Int32), vi (0 : Int32), .unset, .unset] [(.int (0 : Int32)), (.ref a2), (.int (31 : Int32))]) := by
    intro t_ k_
    refine go3 t_ ?_
    refine o_icmpNo X2 hx (hb hby d4_11) (tlt (by decide : (0 : Int32) < (1 : Int32))).2.1 ?_
    refine o_bipush X2 hx (hb hby d4_14) (v := 31) rfl ?_
    refine o_iloadN X2 hx (hb hby d4_16) rfl ?_
    refine o_imulE X2 hx (hb hby d4_17) (v := 31) rfl ?_
    refine o_aloadN X2 hx (hb hby d4_18) rfl rfl ?_
    refine o_iloadN X2 hx (hb hby d4_19) rfl ?_
    refine o_iload X2 hx (hb hby d4_20) rfl ?_
    refine o_iaddE X2 hx (hb hby d4_22) (v := 0) rfl ?_
    exact k_
  obtain ⟨cl5, Ar5, -, Sz5, Nn5, Hs5, -⟩ := id V2
  have hin5 : ¬ ((0 : Int32) < 0 ∨ cl5.slots.size ≤ ((0 : Int32)).toNatClampNeg) := inb_of Sz5 ⟨by decide, by decide⟩
  have hat5 : cl5.slots[((0 : Int32)).toNatClampNeg]? = some (.long x0) := Hs5.at hin5 rfl
  have go6 : Go p e below s₁ F0 T2 (mkF m 24 #[vr a1, vr a2, vi (0 : Int32), vi (1 : Int32), vi (0 : Int32), .unset, .unset] [(.long x0), (.int (31 : Int32))]) := by
    intro t_ k_
    refine go4 t_ ?_
    refine o_laload X2 hx hZ e2 Ar5 hin5 hat5 (hb hby d4_23) ?_
    exact k_
  obtain ⟨_, _, ⟨T7, L7, k7, n7⟩, -, X7, ⟨Lc7, hQ7, l7, y7, z7⟩, st7⟩ := Jvm.LawKit.callS X2 hx (y := y_0) hown (mvT hZ (own_w hw 29 rfl)) (mvT hZ (own_w hw 30 rfl)) (mvT hZ (own_w hw 31 rfl)) (mvT hZ (own_w hw 32 rfl)) (by decide) (backOf (W := 1) (rm5 l Z a0 hw [] x0 h0 n0 Z0 ) hZ (own_w hw 32 rfl) (own_w hw 31 rfl) (by decide) (by decide)) (g := (mkF m 24 #[vr a1, vr a2, vi (0 : Int32), vi (1 : Int32), vi (0 : Int32), .unset, .unset] [(.long x0), (.int (31 : Int32))])) rfl (by rw [hml]; rfl) (argsL := [(.long x0)]) (rest := [(.int (31 : Int32))]) (lenOf pd4_a1_0 rfl) rfl (by show 2 * 0 + _ ≤ _; exact Nat.le_of_eq rfl) (hb hby d4_24) (fun _ _ => ⟨rfl, e2, (by decide : 0 + 0 ≤ _), (by decide : 0 + 0 ≤ _)⟩)
  dsimp only [Pt.U, Pt.locs, Pt.cells, Pt.slots] at X7 l7 y7 z7 st7 hQ7
  subst l7 y7 z7
  obtain ⟨rfl, Nq7, eh7⟩ := hQ7
  have N7 := Fr.app N0 Nq7
  have go8 : Go p e below s₁ F0 T7 (mkF m 27 #[vr a1, vr a2, vi (0 : Int32), vi (1 : Int32), vi (0 : Int32), .unset, .unset] [(.int (f5 x0)), (.int (31 : Int32))]) := fun t_ k_ => go6 t_ (st7 t_ k_)
  have go9 : Go p e below s₁ F0 T7 (mkF m 8 #[vr a1, vr a2, vi (0 : Int32), vi ((31 : Int32) + (f5 x0)), vi (1 : Int32), .unset, .unset] [(.ref a1), (.int (1 : Int32))]) := by
    intro t_ k_
    refine go8 t_ ?_
    refine o_iadd X7 hx (hb hby d4_27) ?_
    refine o_istoreN X7 hx (hb hby d4_28) (L' := #[vr a1, vr a2, vi (0 : Int32), vi ((31 : Int32) + (f5 x0)), vi (0 : Int32), .unset, .unset]) rfl ?_
    refine o_iinc X7 hx (hb hby d4_29) rfl (L' := #[vr a1, vr a2, vi (0 : Int32), vi ((31 : Int32) + (f5 x0)), vi (1 : Int32), .unset, .unset]) rfl ?_
    refine o_goto X7 hx (hb hby d4_32) (pc' := 5) rfl (by decide) ?_
    refine o_iload X7 hx (hb hby d4_5) rfl ?_
    refine o_aloadN X7 hx (hb hby d4_7) rfl rfl ?_
    exact k_
  obtain ⟨T10, X10, e10, st10⟩ := getF X7 hx hZ hown (host := "") (Or.inl (own_w hw 11 rfl)) Via.refl eh7 Fwi (g := (mkF m 8 #[vr a1, vr a2, vi (0 : Int32), vi ((31 : Int32) + (f5 x0)), vi (1 : Int32), .unset, .unset] [(.ref a1), (.int (1 : Int32))])) rfl rfl (hb hby d4_8)
  have go11 : Go p e below s₁ F0 T10 (mkF m 11 #[vr a1, vr a2, vi (0 : Int32), vi ((31 : Int32) + (f5 x0)), vi (1 : Int32), .unset, .unset] [(.int (1 : Int32)), (.int (1 : Int32))]) := fun t_ k_ => go9 t_ (st10 t_ k_)
  have go12 : Go p e below s₁ F0 T10 (mkF m 35 #[vr a1, vr a2, vi (0 : Int32), vi ((31 : Int32) + (f5 x0)), vi (1 : Int32), .unset, .unset] []) := by
    intro t_ k_
    refine go11 t_ ?_
    refine o_icmpYes X10 hx (hb hby d4_11) (pc' := 35) rfl (by decide) (flt (by decide : ¬ ((1 : Int32) < (1 : Int32)))).2.1 ?_
    exact k_
  obtain ⟨hs, h_hs⟩ : ∃ z : Int32, z = ((31 : Int32) + (f5 x0)) := ⟨_, rfl⟩
  have go13 : Go p e below s₁ F0 T10 (mkF m 35 #[vr a1, vr a2, vi (0 : Int32), vi hs, vi (1 : Int32), .unset, .unset] []) := by rw [h_hs]; exact go12
  have go14 : Go p e below s₁ F0 T10 (mkF m 36 #[vr a1, vr a2, vi (0 : Int32), vi hs, vi (1 : Int32), .unset, .unset] [(.ref a1)]) := by
    intro t_ k_
    refine go13 t_ ?_
    refine o_aloadN X10 hx (hb hby d4_35) rfl rfl ?_
    exact k_
  obtain ⟨T15, X15, e15, st15⟩ := getF X10 hx hZ hown (host := "") (Or.inl (own_w hw 18 rfl)) Via.refl e10 Fsl (g := (mkF m 36 #[vr a1, vr a2, vi (0 : Int32), vi hs, vi (1 : Int32), .unset, .unset] [(.ref a1)])) rfl rfl (hb hby d4_36)
  have go16 : Go p e below s₁ F0 T15 (mkF m 39 #[vr a1, vr a2, vi (0 : Int32), vi hs, vi (1 : Int32), .unset, .unset] [(.ref bs)]) := fun t_ k_ => go14 t_ (st15 t_ k_)
  obtain ⟨cl17, Ar17, -, Sz17, Nn17, -, -⟩ := id Vs
  have go18 : Go p e below s₁ F0 T15 (mkF m 47 #[vr a1, vr a2, vi (0 : Int32), vi hs, vi (31 : Int32), .unset, .unset] [(.int (31 : Int32)), (.int hs)]) := by
    intro t_ k_
    refine go16 t_ ?_
    refine o_len X15 hx hZ e15 Ar17 Sz17 Nn17 (hb hby d4_39) ?_
    refine o_iconst X15 hx (hb hby d4_40) (v := 1) rfl ?_
    refine o_isubE X15 hx (hb hby d4_41) (v := 31) rfl ?_
    refine o_istore X15 hx (hb hby d4_42) (L' := #[vr a1, vr a2, vi (0 : Int32), vi hs, vi (31 : Int32), .unset, .unset]) rfl ?_
    refine o_iloadN X15 hx (hb hby d4_44) rfl ?_
    refine o_iload X15 hx (hb hby d4_45) rfl ?_
    exact k_
  obtain ⟨_, _, ⟨T19, L19, k19, n19⟩, -, X19, ⟨Lc19, hQ19, l19, y19, z19⟩, st19⟩ := Jvm.LawKit.callS X15 hx (y := y_1) hown (mvT hZ (own_w hw 33 rfl)) (mvT hZ (own_w hw 34 rfl)) (mvT hZ (own_w hw 4 rfl)) (mvT hZ (own_w hw 35 rfl)) (by decide) (backOf (W := 0) (rm6 l Z a0 hw [] hs (31 : Int32) h0 n0 Z0 ) hZ (own_w hw 35 rfl) (own_w hw 4 rfl) (by decide) (by decide)) (g := (mkF m 47 #[vr a1, vr a2, vi (0 : Int32), vi hs, vi (31 : Int32), .unset, .unset] [(.int (31 : Int32)), (.int hs)])) rfl (by rw [hml]; rfl) (argsL := [(.int hs), (.int (31 : Int32))]) (rest := []) (lenOf pd4_a1_1 rfl) rfl (by show 2 * 0 + _ ≤ _; exact Nat.le_of_eq rfl) (hb hby d4_47) (fun _ _ => ⟨rfl, e15, (by decide : 0 + 0 ≤ _), (by decide : 0 + 0 ≤ _)⟩)
  dsimp only [Pt.U, Pt.locs, Pt.cells, Pt.slots] at X19 l19 y19 z19 st19 hQ19
  subst l19 y19 z19
  obtain ⟨rfl, Nq19, eh19⟩ := hQ19
  have N19 := Fr.app N7 Nq19
  have go20 : Go p e below s₁ F0 T19 (mkF m 50 #[vr a1, vr a2, vi (0 : Int32), vi hs, vi (31 : Int32), .unset, .unset] [(.int (f6 hs (31 : Int32)))]) := fun t_ k_ => go18 t_ (st19 t_ k_)
  have go21 : Go p e below s₁ F0 T19 (mkF m 52 #[vr a1, vr a2, vi (0 : Int32), vi hs, vi (31 : Int32), vi (f6 hs (31 : Int32)), .unset] []) := by
    intro t_ k_
    refine go20 t_ ?_
    refine o_istore X19 hx (hb hby d4_50) (L' := #[vr a1, vr a2, vi (0 : Int32), vi hs, vi (31 : Int32), vi (f6 hs (31 : Int32)), .unset]) rfl ?_
    exact k_
  obtain ⟨sl, h_sl⟩ : ∃ z : Int32, z = (f6 hs (31 : Int32)) := ⟨_, rfl⟩
  have go22 : Go p e below s₁ F0 T19 (mkF m 52 #[vr a1, vr a2, vi (0 : Int32), vi hs, vi (31 : Int32), vi sl, .unset] []) := by rw [h_sl]; exact go21
  have go23 : Go p e below s₁ F0 T19 (mkF m 53 #[vr a1, vr a2, vi (0 : Int32), vi hs, vi (31 : Int32), vi sl, .unset] [(.ref a1)]) := by
    intro t_ k_
    refine go22 t_ ?_
    refine o_aloadN X19 hx (hb hby d4_52) rfl rfl ?_
    exact k_
  obtain ⟨T24, X24, e24, st24⟩ := getF X19 hx hZ hown (host := "") (Or.inl (own_w hw 18 rfl)) Via.refl eh19 Fsl (g := (mkF m 53 #[vr a1, vr a2, vi (0 : Int32), vi hs, vi (31 : Int32), vi sl, .unset] [(.ref a1)])) rfl rfl (hb hby d4_53)
  have go25 : Go p e below s₁ F0 T24 (mkF m 56 #[vr a1, vr a2, vi (0 : Int32), vi hs, vi (31 : Int32), vi sl, .unset] [(.ref bs)]) := fun t_ k_ => go23 t_ (st24 t_ k_)
  have go26 : Go p e below s₁ F0 T24 (mkF m 58 #[vr a1, vr a2, vi (0 : Int32), vi hs, vi (31 : Int32), vi sl, .unset] [(.int sl), (.ref bs)]) := by
    intro t_ k_
    refine go25 t_ ?_
    refine o_iload X24 hx (hb hby d4_56) rfl ?_
    exact k_
  obtain ⟨cl27, Ar27, -, Sz27, Nn27, Hs27, -⟩ := id Vs
  have hin27 : ¬ (sl < 0 ∨ cl27.slots.size ≤ (sl).toNatClampNeg) := inb_of Sz27 (own_in h_sl)
  have hat27 : cl27.slots[(sl).toNatClampNeg]? = some (.int (0 : Int32)) := Hs27.at hin27 (own_z _)
  have go28 : Go p e below s₁ F0 T24 (mkF m 112 #[vr a1, vr a2, vi (0 : Int32), vi hs, vi (31 : Int32), vi sl, .unset] [(.ref a1), (.ref a1)]) := by
    intro t_ k_
    refine go26 t_ ?_
    refine o_iaload X24 hx hZ e24 Ar27 hin27 hat27 (hb hby d4_58) ?_
    refine o_ifYes X24 hx (hb hby d4_59) (pc' := 110) rfl (by decide) ((if0 _ _).trans (teq (by decide : (0 : Int32) = (0 : Int32))).1) ?_
    refine o_aloadN X24 hx (hb hby d4_110) rfl rfl ?_
    refine o_dup X24 hx (hb hby d4_111) rfl ?_
    exact k_
  obtain ⟨T29, X29, e29, st29⟩ := getF X24 hx hZ hown (host := "") (Or.inl (own_w hw 37 rfl)) Via.refl e24 Fco (g := (mkF m 112 #[vr a1, vr a2, vi (0 : Int32), vi hs, vi (31 : Int32), vi sl, .unset] [(.ref a1), (.ref a1)])) rfl rfl (hb hby d4_112)
  have go30 : Go p e below s₁ F0 T29 (mkF m 115 #[vr a1, vr a2, vi (0 : Int32), vi hs, vi (31 : Int32), vi sl, .unset] [(.int (0 : Int32)), (.ref a1)]) := fun t_ k_ => go28 t_ (st29 t_ k_)
  have go31 : Go p e below s₁ F0 T29 (mkF m 118 #[vr a1, vr a2, vi (0 : Int32), vi hs, vi (31 : Int32), vi sl, .unset] [(.int (1 : Int32)), (.ref a1), (.int (0 : Int32))]) := by
    intro t_ k_
    refine go30 t_ ?_
    refine o_dupX1 X29 hx (hb hby d4_115) rfl rfl ?_
    refine o_iconst X29 hx (hb hby d4_116) (v := 1) rfl ?_
    refine o_iaddE X29 hx (hb hby d4_117) (v := 1) rfl ?_
    exact k_
  obtain ⟨T32, h32, X32, e32, W32, st32⟩ := putF X29 hx hZ hown (host := "") (Or.inl (own_w hw 37 rfl)) Via.refl e29 Fco E0 (Or.inl (own_w hw 38 rfl)) (own_w hw 3 rfl) (ty := .int) (by decide) rfl rfl (g := (mkF m 118 #[vr a1, vr a2, vi (0 : Int32), vi hs, vi (31 : Int32), vi sl, .unset] [(.int (1 : Int32)), (.ref a1), (.int (0 : Int32))])) rfl rfl (hb hby d4_118)
  have Fw32 : Fld Z h32 a1 c_0 "count" "I" (.int (1 : Int32)) := Fld.same W32 Fco
  have K33 : Keep h0 h32 [a1, bw, bh, bs] := K0.wr W32 (Or.inl (List.mem_of_getElem? (i := 0) rfl))
  have Z33 : n0 ≤ h32.size := Nat.le_trans Z0 (Keep.of_wr W32).1
  have N32 := Fr.snoc X32 N19 g1
  have go34 : Go p e below s₁ F0 T32 (mkF m 121 #[vr a1, vr a2, vi (0 : Int32), vi hs, vi (31 : Int32), vi sl, .unset] [(.int (0 : Int32))]) := fun t_ k_ => go31 t_ (st32 t_ k_)
  have F35 : Fld Z h32 a1 c_0 "hashes" "[I" (.ref bh) := (Fha.other W32 (Or.inr (slot_ne (Or.inl (own_w hw 17 rfl)) (Or.inl (own_w hw 38 rfl)) (by decide) (t := (.array .int)) (t' := .int) (by decide) (by decide))))
  have go36 : Go p e below s₁ F0 T32 (mkF m 126 #[vr a1, vr a2, vi (0 : Int32), vi hs, vi (31 : Int32), vi sl, vi (0 : Int32)] [(.ref a1), (.int (0 : Int32))]) := by
    intro t_ k_
    refine go34 t_ ?_
    refine o_istore X32 hx (hb hby d4_121) (L' := #[vr a1, vr a2, vi (0 : Int32), vi hs, vi (31 : Int32), vi sl, vi (0 : Int32)]) rfl ?_
    refine o_iload X32 hx (hb hby d4_123) rfl ?_
    refine o_aloadN X32 hx (hb hby d4_125) rfl rfl ?_
    exact k_
  obtain ⟨T37, X37, e37, st37⟩ := getF X32 hx hZ hown (host := "") (Or.inl (own_w hw 16 rfl)) Via.refl e32 F35 (g := (mkF m 126 #[vr a1, vr a2, vi (0 : Int32), vi hs, vi (31 : Int32), vi sl, vi (0 : Int32)] [(.ref a1), (.int (0 : Int32))])) rfl rfl (hb hby d4_126)
  have go38 : Go p e below s₁ F0 T37 (mkF m 129 #[vr a1, vr a2, vi (0 : Int32), vi hs, vi (31 : Int32), vi sl, vi (0 : Int32)] [(.ref bh), (.int (0 : Int32))]) := fun t_ k_ => go36 t_ (st37 t_ k_)
  have F39 : Arv Z h32 bh kh .int (16 : Int32) (own_zi 16) (.int (0 : Int32)) := (Vh.other W32 (Ne.symm nah))
  obtain ⟨cl40, Ar40, -, Sz40, Nn40, -, -⟩ := id F39
  have F41 : Fld Z h32 a1 c_0 "words" "[J" (.ref bw) := (Fwo.other W32 (Or.inr (slot_ne (Or.inl (own_w hw 14 rfl)) (Or.inl (own_w hw 38 rfl)) (by decide) (t := (.array .long)) (t' := .int) (by decide) (by decide))))
  have go42 : Go p e below s₁ F0 T37 (mkF m 171 #[vr a1, vr a2, vi (0 : Int32), vi hs, vi (31 : Int32), vi sl, vi (0 : Int32)] [(.ref a1), (.int (0 : Int32)), (.ref a2)]) := by
    intro t_ k_
    refine go38 t_ ?_
    refine o_len X37 hx hZ e37 Ar40 Sz40 Nn40 (hb hby d4_129) ?_
    refine o_icmpYes X37 hx (hb hby d4_130) (pc' := 168) rfl (by decide) (feq (by decide : ¬ ((0 : Int32) = (16 : Int32)))).2 ?_
    refine o_aloadN X37 hx (hb hby d4_168) rfl rfl ?_
    refine o_iloadN X37 hx (hb hby d4_169) rfl ?_
    refine o_aloadN X37 hx (hb hby d4_170) rfl rfl ?_
    exact k_
  obtain ⟨T43, X43, e43, st43⟩ := getF X37 hx hZ hown (host := "") (Or.inl (own_w hw 13 rfl)) Via.refl e37 F41 (g := (mkF m 171 #[vr a1, vr a2, vi (0 : Int32), vi hs, vi (31 : Int32), vi sl, vi (0 : Int32)] [(.ref a1), (.int (0 : Int32)), (.ref a2)])) rfl rfl (hb hby d4_171)
  have go44 : Go p e below s₁ F0 T43 (mkF m 174 #[vr a1, vr a2, vi (0 : Int32), vi hs, vi (31 : Int32), vi sl, vi (0 : Int32)] [(.ref bw), (.int (0 : Int32)), (.ref a2)]) := fun t_ k_ => go42 t_ (st43 t_ k_)
  have F45 : Fld Z h32 a1 c_0 "width" "I" (.int (1 : Int32)) := (Fwi.other W32 (Or.inr (slot_ne (Or.inr (own_w hw 12 rfl)) (Or.inl (own_w hw 38 rfl)) (by decide) (t := .int) (t' := .int) (by decide) (by decide))))
  have go46 : Go p e below s₁ F0 T43 (mkF m 177 #[vr a1, vr a2, vi (0 : Int32), vi hs, vi (31 : Int32), vi sl, vi (0 : Int32)] [(.ref a1), (.int (0 : Int32)), (.ref bw), (.int (0 : Int32)), (.ref a2)]) := by
    intro t_ k_
    refine go44 t_ ?_
    refine o_iload X43 hx (hb hby d4_174) rfl ?_
    refine o_aloadN X43 hx (hb hby d4_176) rfl rfl ?_
    exact k_
  obtain ⟨T47, X47, e47, st47⟩ := getF X43 hx hZ hown (host := "") (Or.inl (own_w hw 11 rfl)) Via.refl e43 F45 (g := (mkF m 177 #[vr a1, vr a2, vi (0 : Int32), vi hs, vi (31 : Int32), vi sl, vi (0 : Int32)] [(.ref a1), (.int (0 : Int32)), (.ref bw), (.int (0 : Int32)), (.ref a2)])) rfl rfl (hb hby d4_177)
  have go48 : Go p e below s₁ F0 T47 (mkF m 180 #[vr a1, vr a2, vi (0 : Int32), vi hs, vi (31 : Int32), vi sl, vi (0 : Int32)] [(.int (1 : Int32)), (.int (0 : Int32)), (.ref bw), (.int (0 : Int32)), (.ref a2)]) := fun t_ k_ => go46 t_ (st47 t_ k_)
  have go49 : Go p e below s₁ F0 T47 (mkF m 182 #[vr a1, vr a2, vi (0 : Int32), vi hs, vi (31 : Int32), vi sl, vi (0 : Int32)] [(.ref a1), (.int (0 : Int32)), (.ref bw), (.int (0 : Int32)), (.ref a2)]) := by
    intro t_ k_
    refine go48 t_ ?_
    refine o_imulE X47 hx (hb hby d4_180) (v := 0) rfl ?_
    refine o_aloadN X47 hx (hb hby d4_181) rfl rfl ?_
    exact k_
  obtain ⟨T50, X50, e50, st50⟩ := getF X47 hx hZ hown (host := "") (Or.inl (own_w hw 11 rfl)) Via.refl e47 F45 (g := (mkF m 182 #[vr a1, vr a2, vi (0 : Int32), vi hs, vi (31 : Int32), vi sl, vi (0 : Int32)] [(.ref a1), (.int (0 : Int32)), (.ref bw), (.int (0 : Int32)), (.ref a2)])) rfl rfl (hb hby d4_182)
  have go51 : Go p e below s₁ F0 T50 (mkF m 185 #[vr a1, vr a2, vi (0 : Int32), vi hs, vi (31 : Int32), vi sl, vi (0 : Int32)] [(.int (1 : Int32)), (.int (0 : Int32)), (.ref bw), (.int (0 : Int32)), (.ref a2)]) := fun t_ k_ => go49 t_ (st50 t_ k_)
  have F52 : Arv Z h32 a2 k2 .long (2 : Int32) [(.long x0), (.long x1)] (.long (0 : Int64)) := (V2.other W32 (Ne.symm n12))
  have F53 : Arv Z h32 bw kw .long (16 : Int32) (own_zl 16) (.long (0 : Int64)) := (Vw.other W32 (Ne.symm naw))
  obtain ⟨T54, h54, L54, X54, e54, N54, Kc54, Vc54, st54⟩ := cpA X50 hx hZ hown (own_w hw 39 rfl) (own_w hw 42 rfl) (own_w hw 40 rfl) (own_w hw 41 rfl) e50 F52 F53 (Or.inl ⟨rfl, rfl⟩) (by decide) (by decide) (by decide) (by decide) (by decide) (us := [(.long x0)]) rfl (Nat.le_of_ble_eq_true rfl) N32 gw (g := (mkF m 185 #[vr a1, vr a2, vi (0 : Int32), vi hs, vi (31 : Int32), vi sl, vi (0 : Int32)] [(.int (1 : Int32)), (.int (0 : Int32)), (.ref bw), (.int (0 : Int32)), (.ref a2)])) rfl (by rw [hml]; rfl) rfl (hb hby d4_185) (by decide) (W := 0) (by show 2 * 0 + _ ≤ _; exact Nat.le_of_eq rfl) (by decide)
  have V54 : Arv Z h54 bw kw .long (16 : Int32) ((.long x0) :: own_zl 15) (.long (0 : Int64)) := Vc54
  have K55 : Keep h0 h54 [a1, bw, bh, bs] := K33.trans Kc54 (allS (Or.inl (List.mem_of_getElem? (i := 1) rfl)) all0)
  have Z55 : n0 ≤ h54.size := Nat.le_trans Z33 Kc54.1
  have go56 : Go p e below s₁ F0 T54 (mkF m 188 #[vr a1, vr a2, vi (0 : Int32), vi hs, vi (31 : Int32), vi sl, vi (0 : Int32)] []) := fun t_ k_ => go51 t_ (st54 t_ k_)
  have F57 : Fld Z h54 a1 c_0 "hashes" "[I" (.ref bh) := (F35.keep Kc54 (ninS naw nin0))
  have go58 : Go p e below s₁ F0 T54 (mkF m 189 #[vr a1, vr a2, vi (0 : Int32), vi hs, vi (31 : Int32), vi sl, vi (0 : Int32)] [(.ref a1)]) := by
    intro t_ k_
    refine go56 t_ ?_
    refine o_aloadN X54 hx (hb hby d4_188) rfl rfl ?_
    exact k_
  obtain ⟨T59, X59, e59, st59⟩ := getF X54 hx hZ hown (host := "") (Or.inl (own_w hw 16 rfl)) Via.refl e54 F57 (g := (mkF m 189 #[vr a1, vr a2, vi (0 : Int32), vi hs, vi (31 : Int32), vi sl, vi (0 : Int32)] [(.ref a1)])) rfl rfl (hb hby d4_189)
  have go60 : Go p e below s₁ F0 T59 (mkF m 192 #[vr a1, vr a2, vi (0 : Int32), vi hs, vi (31 : Int32), vi sl, vi (0 : Int32)] [(.ref bh)]) := fun t_ k_ => go58 t_ (st59 t_ k_)
  have F61 : Arv Z h54 bh kh .int (16 : Int32) (own_zi 16) (.int (0 : Int32)) := (F39.keep Kc54 (ninS (Ne.symm nwh) nin0))
  have go62 : Go p e below s₁ F0 T59 (mkF m 195 #[vr a1, vr a2, vi (0 : Int32), vi hs, vi (31 : Int32), vi sl, vi (0 : Int32)] [(.int hs), (.int (0 : Int32)), (.ref bh)]) := by
    intro t_ k_
    refine go60 t_ ?_
    refine o_iload X59 hx (hb hby d4_192) rfl ?_
    refine o_iloadN X59 hx (hb hby d4_194) rfl ?_
    exact k_
  obtain ⟨cl63, Ar63, q63, Sz63, Nn63, Hs63, G63⟩ := id F61
  have hin63 : ¬ ((0 : Int32) < 0 ∨ cl63.slots.size ≤ ((0 : Int32)).toNatClampNeg) := inb_of Sz63 ⟨by decide, by decide⟩
  obtain ⟨T63, h63, X63, e63, W63, st63⟩ := stI X59 hx hZ e59 Ar63 (j := (0 : Int32)) hin63 (g := (mkF m 195 #[vr a1, vr a2, vi (0 : Int32), vi hs, vi (31 : Int32), vi sl, vi (0 : Int32)] [(.int hs), (.int (0 : Int32)), (.ref bh)])) rfl rfl (hb hby d4_195)
  have V63 : Arv Z h63 bh kh .int (16 : Int32) ((.int hs) :: own_zi 15) (.int (0 : Int32)) := Arv.set Ar63 q63 Sz63 Nn63 Hs63 G63 rfl W63 0 rfl (Nat.le_of_ble_eq_true rfl)
  have K64 : Keep h0 h63 [a1, bw, bh, bs] := K55.wr W63 (Or.inl (List.mem_of_getElem? (i := 2) rfl))
  have Z64 : n0 ≤ h63.size := Nat.le_trans Z55 (Keep.of_wr W63).1
  have N63 := Fr.snoc X63 N54 gh
  have go65 : Go p e below s₁ F0 T63 (mkF m 196 #[vr a1, vr a2, vi (0 : Int32), vi hs, vi (31 : Int32), vi sl, vi (0 : Int32)] []) := fun t_ k_ => go62 t_ (st63 t_ k_)
  have F66 : Fld Z h63 a1 c_0 "slots" "[I" (.ref bs) := (((Fsl.other W32 (Or.inr (slot_ne (Or.inl (own_w hw 19 rfl)) (Or.inl (own_w hw 38 rfl)) (by decide) (t := (.array .int)) (t' := .int) (by decide) (by decide)))).keep Kc54 (ninS naw nin0)).other W63 (Or.inl nah))
  have go67 : Go p e below s₁ F0 T63 (mkF m 197 #[vr a1, vr a2, vi (0 : Int32), vi hs, vi (31 : Int32), vi sl, vi (0 : Int32)] [(.ref a1)]) := by
    intro t_ k_
    refine go65 t_ ?_
    refine o_aloadN X63 hx (hb hby d4_196) rfl rfl ?_
    exact k_
  obtain ⟨T68, X68, e68, st68⟩ := getF X63 hx hZ hown (host := "") (Or.inl (own_w hw 18 rfl)) Via.refl e63 F66 (g := (mkF m 197 #[vr a1, vr a2, vi (0 : Int32), vi hs, vi (31 : Int32), vi sl, vi (0 : Int32)] [(.ref a1)])) rfl rfl (hb hby d4_197)
  have go69 : Go p e below s₁ F0 T68 (mkF m 200 #[vr a1, vr a2, vi (0 : Int32), vi hs, vi (31 : Int32), vi sl, vi (0 : Int32)] [(.ref bs)]) := fun t_ k_ => go67 t_ (st68 t_ k_)
  have F70 : Arv Z h63 bs ks .int (32 : Int32) (own_zi 32) (.int (0 : Int32)) := (((Vs.other W32 (Ne.symm nas)).keep Kc54 (ninS (Ne.symm nws) nin0)).other W63 (Ne.symm nhs))
  have go71 : Go p e below s₁ F0 T68 (mkF m 206 #[vr a1, vr a2, vi (0 : Int32), vi hs, vi (31 : Int32), vi sl, vi (0 : Int32)] [(.int (1 : Int32)), (.int sl), (.ref bs)]) := by
    intro t_ k_
    refine go69 t_ ?_
    refine o_iload X68 hx (hb hby d4_200) rfl ?_
    refine o_iload X68 hx (hb hby d4_202) rfl ?_
    refine o_iconst X68 hx (hb hby d4_204) (v := 1) rfl ?_
    refine o_iaddE X68 hx (hb hby d4_205) (v := 1) rfl ?_
    exact k_
  obtain ⟨cl72, Ar72, q72, Sz72, Nn72, Hs72, G72⟩ := id F70
  have hin72 : ¬ (sl < 0 ∨ cl72.slots.size ≤ (sl).toNatClampNeg) := inb_of Sz72 (own_in h_sl)
  obtain ⟨T72, h72, X72, e72, W72, st72⟩ := stI X68 hx hZ e68 Ar72 (j := sl) hin72 (g := (mkF m 206 #[vr a1, vr a2, vi (0 : Int32), vi hs, vi (31 : Int32), vi sl, vi (0 : Int32)] [(.int (1 : Int32)), (.int sl), (.ref bs)])) rfl rfl (hb hby d4_206)
  have V72 : Arv Z h72 bs ks .int (32 : Int32) (own_sl sl) (.int (0 : Int32)) := Arv.set Ar72 q72 Sz72 Nn72 Hs72 G72 rfl W72 sl.toNatClampNeg rfl (own_lz h_sl)
  have K73 : Keep h0 h72 [a1, bw, bh, bs] := K64.wr W72 (Or.inl (List.mem_of_getElem? (i := 3) rfl))
  have Z73 : n0 ≤ h72.size := Nat.le_trans Z64 (Keep.of_wr W72).1
  have N72 := Fr.snoc X72 N63 gs
  have go74 : Go p e below s₁ F0 T72 (mkF m 207 #[vr a1, vr a2, vi (0 : Int32), vi hs, vi (31 : Int32), vi sl, vi (0 : Int32)] []) := fun t_ k_ => go71 t_ (st72 t_ k_)
  have F75 : Fld Z h72 a1 c_0 "count" "I" (.int (1 : Int32)) := (((Fw32.keep Kc54 (ninS naw nin0)).other W63 (Or.inl nah)).other W72 (Or.inl nas))
  have go76 : Go p e below s₁ F0 T72 (mkF m 209 #[vr a1, vr a2, vi (0 : Int32), vi hs, vi (31 : Int32), vi sl, vi (0 : Int32)] [(.ref a1), (.int (2 : Int32))]) := by
    intro t_ k_
    refine go74 t_ ?_
    refine o_iconst X72 hx (hb hby d4_207) (v := 2) rfl ?_
    refine o_aloadN X72 hx (hb hby d4_208) rfl rfl ?_
    exact k_
  obtain ⟨T77, X77, e77, st77⟩ := getF X72 hx hZ hown (host := "") (Or.inl (own_w hw 37 rfl)) Via.refl e72 F75 (g := (mkF m 209 #[vr a1, vr a2, vi (0 : Int32), vi hs, vi (31 : Int32), vi sl, vi (0 : Int32)] [(.ref a1), (.int (2 : Int32))])) rfl rfl (hb hby d4_209)
  have go78 : Go p e below s₁ F0 T77 (mkF m 212 #[vr a1, vr a2, vi (0 : Int32), vi hs, vi (31 : Int32), vi sl, vi (0 : Int32)] [(.int (1 : Int32)), (.int (2 : Int32))]) := fun t_ k_ => go76 t_ (st77 t_ k_)
  have F79 : Fld Z h72 a1 c_0 "slots" "[I" (.ref bs) := (F66.other W72 (Or.inl nas))
  have go80 : Go p e below s₁ F0 T77 (mkF m 214 #[vr a1, vr a2, vi (0 : Int32), vi hs, vi (31 : Int32), vi sl, vi (0 : Int32)] [(.ref a1), (.int (2 : Int32))]) := by
    intro t_ k_
    refine go78 t_ ?_
    refine o_imulE X77 hx (hb hby d4_212) (v := 2) rfl ?_
    refine o_aloadN X77 hx (hb hby d4_213) rfl rfl ?_
    exact k_
  obtain ⟨T81, X81, e81, st81⟩ := getF X77 hx hZ hown (host := "") (Or.inl (own_w hw 18 rfl)) Via.refl e77 F79 (g := (mkF m 214 #[vr a1, vr a2, vi (0 : Int32), vi hs, vi (31 : Int32), vi sl, vi (0 : Int32)] [(.ref a1), (.int (2 : Int32))])) rfl rfl (hb hby d4_214)
  have go82 : Go p e below s₁ F0 T81 (mkF m 217 #[vr a1, vr a2, vi (0 : Int32), vi hs, vi (31 : Int32), vi sl, vi (0 : Int32)] [(.ref bs), (.int (2 : Int32))]) := fun t_ k_ => go80 t_ (st81 t_ k_)
  obtain ⟨cl83, Ar83, -, Sz83, Nn83, -, -⟩ := id V72
  have go84 : Go p e below s₁ F0 T81 (mkF m 227 #[vr a1, vr a2, vi (0 : Int32), vi hs, vi (31 : Int32), vi sl, vi (0 : Int32)] [(.int (0 : Int32))]) := by
    intro t_ k_
    refine go82 t_ ?_
    refine o_len X81 hx hZ e81 Ar83 Sz83 Nn83 (hb hby d4_217) ?_
    refine o_icmpYes X81 hx (hb hby d4_218) (pc' := 225) rfl (by decide) (flt (by decide : ¬ ((32 : Int32) < (2 : Int32)))).2.2.2 ?_
    refine o_iload X81 hx (hb hby d4_225) rfl ?_
    exact k_
  obtain ⟨fs, hr, hrun, hended, hW, hsame⟩ := X81.leave (v := some (.int (0 : Int32))) (fun h => by rw [Bd.returns] at h; cases h)
  refine ⟨_, _, pre0 _ (go84 _ ?_), hrun, hended, _, _, rfl, ?_, ⟨_, rfl⟩, hW, hsame.mono (by decide) (by decide)⟩
  · skip
    exact retI X81 hx Bd.returns (hb hby d4_227) hr
  · show Q4_a1 Z a1 a2 bw bh bs kw kh ks k2 x0 x1 h0 n0 _ T81.heap _
    rw [e81]
    have F85 : Fld Z h72 a1 c_0 "width" "I" (.int (1 : Int32)) := (((F45.keep Kc54 (ninS naw nin0)).other W63 (Or.inl nah)).other W72 (Or.inl nas))
    have F86 : Fld Z h72 a1 c_0 "words" "[J" (.ref bw) := (((F41.keep Kc54 (ninS naw nin0)).other W63 (Or.inl nah)).other W72 (Or.inl nas))
    have F87 : Fld Z h72 a1 c_0 "hashes" "[I" (.ref bh) := ((F57.other W63 (Or.inl nah)).other W72 (Or.inl nas))
    have F88 : Arv Z h72 bw kw .long (16 : Int32) ((.long x0) :: own_zl 15) (.long (0 : Int64)) := ((V54.other W63 nwh).other W72 nws)
    have F89 : Arv Z h72 bh kh .int (16 : Int32) ((.int hs) :: own_zi 15) (.int (0 : Int32)) := (V63.other W72 nhs)
    exact ⟨hs, sl, rfl, N72, K73, F85, F86, F87, F79, F75, F88, F89, V72, h_hs, h_sl⟩

theorem d3_0 : decode prog_63_method_4_code 0 = .ok (.aload_n 0, 1) := by decide +kernel
theorem d3_1 : decode prog_63_method_4_code 1 = .ok (.aload_n 1, 1) := by decide +kernel
theorem d3_2 : decode prog_63_method_4_code 2 = .ok (.iconst 0, 1) := by decide +kernel
theorem d3_3 : decode prog_63_method_4_code 3 = .ok (.invokevirtual 27, 3) := by decide +kernel
theorem d3_6 : decode prog_63_method_4_code 6 = .ok (.ireturn, 1) := by decide +kernel
theorem pn_3_a1 : plainName "com/example/grammar_game_solver/grammargamesolver/summary/NumberedSets" = true := by first | (simp [plainName, overriddenIn]; done) | decide +kernel
theorem pd3_a1_0 : parseMethodDescriptor "([JI)I" = some ⟨[(.array .long), .int], some .int⟩ := by decide +kernel
theorem ef_3_a1 (m : MethodId) (x0 : Addr) (x1 : Addr) : entryFrame m #[(.ref x0), (.ref x1)] 2 = mkF m 0 #[vr x0, vr x1] [] := by first | (simp [entryFrame, mkF, argsToLocals, Value.category]; done) | rfl
def Q3_a1 (Z : State) (a1 : Addr) (a2 : Addr) (bw : Addr) (bh : Addr) (bs : Addr) (kw : ClassId) (kh : ClassId) (ks : ClassId) (k2 : ClassId) (x0 : Int64) (x1 : Int64) (h0 : Heap) (n0 : Nat) (v : Option Value) (h : Heap) (L : List Loc) : Prop := ∃ hs : Int32, ∃ sl : Int32, v = some (.int (0 : Int32)) ∧ Fr n0 L ∧ Keep h0 h [a1, bw, bh, bs] ∧ Fld Z h a1 c_0 "width" "I" (.int (1 : Int32)) ∧ Fld Z h a1 c_0 "words" "[J" (.ref bw) ∧ Fld Z h a1 c_0 "hashes" "[I" (.ref bh) ∧ Fld Z h a1 c_0 "slots" "[I" (.ref bs) ∧ Fld Z h a1 c_0 "count" "I" (.int (1 : Int32)) ∧ Arv Z h bw kw .long (16 : Int32) ((.long x0) :: own_zl 15) (.long (0 : Int64)) ∧ Arv Z h bh kh .int (16 : Int32) ((.int hs) :: own_zi 15) (.int (0 : Int32)) ∧ Arv Z h bs ks .int (32 : Int32) (own_sl sl) (.int (0 : Int32)) ∧ (hs = ((31 : Int32) + (f5 x0))) ∧ (sl = (f6 hs (31 : Int32)))
set_option maxRecDepth 65536 in
set_option maxHeartbeats 40000000 in
theorem rm3_a1 (l : Launch) (Z : State) (a0 : Array Value) (hw : ∀ d ∈ tables_1, d.before a0 Z = true) (ws : List Jvm.Cond) (a1 : Addr) (a2 : Addr) (bw : Addr) (bh : Addr) (bs : Addr) (kw : ClassId) (kh : ClassId) (ks : ClassId) (k2 : ClassId) (x0 : Int64) (x1 : Int64) (h0 : Heap) (n0 : Nat) (Z0 : n0 ≤ h0.size) (E0 : Exa Z h0 a1 c_0) (Fwi : Fld Z h0 a1 c_0 "width" "I" (.int (1 : Int32))) (Fwo : Fld Z h0 a1 c_0 "words" "[J" (.ref bw)) (Fha : Fld Z h0 a1 c_0 "hashes" "[I" (.ref bh)) (Fsl : Fld Z h0 a1 c_0 "slots" "[I" (.ref bs)) (Fco : Fld Z h0 a1 c_0 "count" "I" (.int (0 : Int32))) (Vw : Arv Z h0 bw kw .long (16 : Int32) (own_zl 16) (.long (0 : Int64))) (Vh : Arv Z h0 bh kh .int (16 : Int32) (own_zi 16) (.int (0 : Int32))) (Vs : Arv Z h0 bs ks .int (32 : Int32) (own_zi 32) (.int (0 : Int32))) (V2 : Arv Z h0 a2 k2 .long (2 : Int32) [(.long x0), (.long x1)] (.long (0 : Int64))) (g1 : n0 ≤ a1) (gw : n0 ≤ bw) (gh : n0 ≤ bh) (gs : n0 ≤ bs) (naw : a1 ≠ bw) (nah : a1 ≠ bh) (nas : a1 ≠ bs) (n2w : a2 ≠ bw) (n2h : a2 ≠ bh) (n2s : a2 ≠ bs) (n12 : a1 ≠ a2) (nwh : bw ≠ bh) (nws : bw ≠ bs) (nhs : bh ≠ bs) :
    MetFree l y_4 (head1 (Jvm.Cond.code y_4 prog_63_method_4_code 2 (some .int) :: ws) ({ frames := 2, cells := 0, slots := 0, locals := 36 } : Room)) (fun a U => a = #[(.ref a1), (.ref a2)] ∧ Z.Warmed39 U.vm ∧ U.heap = h0) (fun _ _ _ _ _ => True) (fun _ U o U' => ∃ v L, o = .returned v ∧ Q3_a1 Z a1 a2 bw bh bs kw kh ks k2 x0 x1 h0 n0 v U'.heap L ∧ FrameEnd U o U' L ({ frames := 2, cells := 0, slots := 0, locals := 36 } : Room).cells ({ frames := 2, cells := 0, slots := 0, locals := 36 } : Room).slots) := by
  refine MetFree.of_bodySF (plainFor_of_name pn_3_a1) hisR ?_
  intro p e s m args below meth c s₁ Bd hml0 hP hK
  obtain ⟨rfl, hZ, hh⟩ := hP
  have hx := Bd.exec
  have hby := Bd.bytes
  have hml : c.maxLocals = 2 := hml0
  have hown : s.vm.findClass "com/example/grammar_game_solver/grammargamesolver/summary/NumberedSets" = some m.cls := findClass_of_methodNamed Bd.named
  have hnm := (name_of_methodNamed Bd.named Bd.method).1
  have X0 : Stand p l e ({ frames := 2, cells := 0, slots := 0, locals := 36 } : Room) s m #[(.ref a1), (.ref a2)] below meth c s₁ [] 0 0 := Stand.of_body Bd
  have e0 : s₁.heap = h0 := by rw [← hh, Bd.state]; rfl
  have N0 := Fr.nil n0
  have K0 : Keep h0 h0 [a1, bw, bh, bs] := Keep.refl h0 [a1, bw, bh, bs]
  obtain ⟨F0, hF0⟩ : ∃ F : JFrame, F = entryFrame m #[(.ref a1), (.ref a2)] 2 := ⟨_, rfl⟩
  have pre0 : ∀ t, Steps p.tables e below (s₁.setTop F0) t → Steps p.tables e below (s₁.setTop (entryFrame m #[(.ref a1), (.ref a2)] 2)) t := fun t k => hF0 ▸ k
  have go0 : Go p e below s₁ F0 s₁ (mkF m 0 #[vr a1, vr a2] []) := fun t k => castTop (hF0.trans (ef_3_a1 m a1 a2)) k
  have go1 : Go p e below s₁ F0 s₁ (mkF m 3 #[vr a1, vr a2] [(.int (0 : Int32)), (.ref a2), (.ref a1)]) := by
    intro t_ k_
    refine go0 t_ ?_
    refine o_aloadN X0 hx (hb hby d3_0) rfl rfl ?_
    refine o_aloadN X0 hx (hb hby d3_1) rfl rfl ?_
    refine o_iconst X0 hx (hb hby d3_2) (v := 0) rfl ?_
    exact k_
  obtain ⟨cq2, q2, q2'⟩ := E0.cell
  obtain ⟨_, _, ⟨T2, L2, k2, n2⟩, -, X2, ⟨Lc2, hQ2, l2, y2, z2⟩, st2⟩ := X0.privateBack hx (y := y_3) hown (mvT hZ (own_w hw 25 rfl)) (mvT hZ (own_w hw 26 rfl)) (own_selp (mvT hZ (own_w hw 3 rfl)) (mvP hZ (own_w hw 27 rfl)) (mvT hZ (own_w hw 26 rfl)) (by decide)) (Cond.privateMethod_at (mvP hZ (own_w hw 27 rfl) (args := #[]))) (mvT hZ (own_w hw 28 rfl)) (by decide) (backOf (W := 0) (rm4_a1 l Z a0 hw [] a1 a2 bw bh bs kw kh ks k2 x0 x1 h0 n0 Z0 E0 Fwi Fwo Fha Fsl Fco Vw Vh Vs V2 g1 gw gh gs naw nah nas n2w n2h n2s n12 nwh nws nhs) hZ (own_w hw 28 rfl) (own_w hw 4 rfl) (by decide) (by decide)) (g := (mkF m 3 #[vr a1, vr a2] [(.int (0 : Int32)), (.ref a2), (.ref a1)])) rfl (by rw [hml]; rfl) (Steps.refl _) (a := a1) (by rw [e0]; exact q2) q2' (argsL := [(.ref a2), (.int (0 : Int32))]) (rest := []) (lenOf pd3_a1_0 rfl) rfl (by show 2 * 0 + _ ≤ _; exact Nat.le_of_eq rfl) (hb hby d3_3) (fun _ _ => ⟨rfl, e0, (by decide : 0 + 0 ≤ _), (by decide : 0 + 0 ≤ _)⟩)
  dsimp only [Pt.U, Pt.locs, Pt.cells, Pt.slots] at X2 l2 y2 z2 st2 hQ2
  subst l2 y2 z2
  obtain ⟨hs_2, sl_2, rfl, Nq2, Kc2, Fwi_2, Fwo_2, Fha_2, Fsl_2, Fco_2, Vw_2, Vh_2, Vs_2, hhs_2, hsl_2⟩ := hQ2
  have N2 := Fr.app N0 Nq2
  have K3 : Keep h0 T2.heap [a1, bw, bh, bs] := K0.trans Kc2 (allS (Or.inl (List.mem_of_getElem? (i := 0) rfl)) (allS (Or.inl (List.mem_of_getElem? (i := 1) rfl)) (allS (Or.inl (List.mem_of_getElem? (i := 2) rfl)) (allS (Or.inl (List.mem_of_getElem? (i := 3) rfl)) all0))))
  have Z3 : n0 ≤ T2.heap.size := Nat.le_trans Z0 Kc2.1
  have go4 : Go p e below s₁ F0 T2 (mkF m 6 #[vr a1, vr a2] [(.int (0 : Int32))]) := fun t_ k_ => go1 t_ (st2.trans k_)
  obtain ⟨fs, hr, hrun, hended, hW, hsame⟩ := X2.leave (v := some (.int (0 : Int32))) (fun h => by rw [Bd.returns] at h; cases h)
  refine ⟨_, _, pre0 _ (go4 _ ?_), hrun, hended, _, _, rfl, ?_, ⟨_, rfl⟩, hW, hsame.mono (by decide) (by decide)⟩
  · skip
    exact retI X2 hx Bd.returns (hb hby d3_6) hr
  · show Q3_a1 Z a1 a2 bw bh bs kw kh ks k2 x0 x1 h0 n0 _ T2.heap _
    exact ⟨hs_2, sl_2, rfl, N2, K3, Fwi_2, Fwo_2, Fha_2, Fsl_2, Fco_2, Vw_2, Vh_2, Vs_2, (by first | assumption | decide | omega), (by first | assumption | decide | omega)⟩

theorem d7_0 : decode prog_63_method_10_code 0 = .ok (.iload_n 1, 1) := by decide +kernel
theorem d7_1 : decode prog_63_method_10_code 1 = .ok (.aload_n 0, 1) := by decide +kernel
theorem d7_2 : decode prog_63_method_10_code 2 = .ok (.getfield 7, 3) := by decide +kernel
theorem d7_5 : decode prog_63_method_10_code 5 = .ok (.imul, 1) := by decide +kernel
theorem d7_6 : decode prog_63_method_10_code 6 = .ok (.istore 4, 2) := by decide +kernel
theorem d7_8 : decode prog_63_method_10_code 8 = .ok (.iconst 0, 1) := by decide +kernel
theorem d7_9 : decode prog_63_method_10_code 9 = .ok (.istore 5, 2) := by decide +kernel
theorem d7_11 : decode prog_63_method_10_code 11 = .ok (.iload 5, 2) := by decide +kernel
theorem d7_13 : decode prog_63_method_10_code 13 = .ok (.aload_n 0, 1) := by decide +kernel
theorem d7_14 : decode prog_63_method_10_code 14 = .ok (.getfield 7, 3) := by decide +kernel
theorem d7_17 : decode prog_63_method_10_code 17 = .ok (.if_icmp .ge 31, 3) := by decide +kernel
theorem d7_20 : decode prog_63_method_10_code 20 = .ok (.aload_n 0, 1) := by decide +kernel
theorem d7_21 : decode prog_63_method_10_code 21 = .ok (.getfield 13, 3) := by decide +kernel
theorem d7_24 : decode prog_63_method_10_code 24 = .ok (.iload 4, 2) := by decide +kernel
theorem d7_26 : decode prog_63_method_10_code 26 = .ok (.iload 5, 2) := by decide +kernel
theorem d7_28 : decode prog_63_method_10_code 28 = .ok (.iadd, 1) := by decide +kernel
theorem d7_29 : decode prog_63_method_10_code 29 = .ok (.laload, 1) := by decide +kernel
theorem d7_30 : decode prog_63_method_10_code 30 = .ok (.aload_n 2, 1) := by decide +kernel
theorem d7_31 : decode prog_63_method_10_code 31 = .ok (.iload_n 3, 1) := by decide +kernel
theorem d7_32 : decode prog_63_method_10_code 32 = .ok (.iload 5, 2) := by decide +kernel
theorem d7_34 : decode prog_63_method_10_code 34 = .ok (.iadd, 1) := by decide +kernel
theorem d7_35 : decode prog_63_method_10_code 35 = .ok (.laload, 1) := by decide +kernel
theorem d7_36 : decode prog_63_method_10_code 36 = .ok (.lcmp, 1) := by decide +kernel
theorem d7_37 : decode prog_63_method_10_code 37 = .ok (.ifCond .eq 5, 3) := by decide +kernel
theorem d7_40 : decode prog_63_method_10_code 40 = .ok (.iconst 0, 1) := by decide +kernel
theorem d7_41 : decode prog_63_method_10_code 41 = .ok (.ireturn, 1) := by decide +kernel
theorem d7_42 : decode prog_63_method_10_code 42 = .ok (.iinc 5 1, 3) := by decide +kernel
theorem d7_45 : decode prog_63_method_10_code 45 = .ok (.goto (-34), 3) := by decide +kernel
theorem d7_48 : decode prog_63_method_10_code 48 = .ok (.iconst 1, 1) := by decide +kernel
theorem d7_49 : decode prog_63_method_10_code 49 = .ok (.ireturn, 1) := by decide +kernel
theorem pn_7_1 : plainName "com/example/grammar_game_solver/grammargamesolver/summary/NumberedSets" = true := by first | (simp [plainName, overriddenIn]; done) | decide +kernel
theorem ef_7_1 (m : MethodId) (x0 : Addr) (x2 : Addr) : entryFrame m #[(.ref x0), (.int (0 : Int32)), (.ref x2), (.int (0 : Int32))] 6 = mkF m 0 #[vr x0, vi (0 : Int32), vr x2, vi (0 : Int32), .unset, .unset] [] := by first | (simp [entryFrame, mkF, argsToLocals, Value.category]; done) | rfl
def f7_1 (x0 : Int64) (y0 : Int64) (y1 : Int64) : Int32 := (if x0 = y0 then (1 : Int32) else (0 : Int32))
def Q7_1 (Z : State) (a1 : Addr) (a3 : Addr) (bw : Addr) (kw : ClassId) (k2 : ClassId) (x0 : Int64) (y0 : Int64) (y1 : Int64) (h0 : Heap) (n0 : Nat) (v : Option Value) (h : Heap) (L : List Loc) : Prop := v = some (.int (f7_1 x0 y0 y1)) ∧ Fr n0 L ∧ h = h0
set_option maxRecDepth 65536 in
set_option maxHeartbeats 40000000 in
theorem rm7_1 (l : Launch) (Z : State) (a0 : Array Value) (hw : ∀ d ∈ tables_1, d.before a0 Z = true) (ws : List Jvm.Cond) (a1 : Addr) (a3 : Addr) (bw : Addr) (kw : ClassId) (k2 : ClassId) (x0 : Int64) (y0 : Int64) (y1 : Int64) (h0 : Heap) (n0 : Nat) (Z0 : n0 ≤ h0.size) (Fwi : Fld Z h0 a1 c_0 "width" "I" (.int (1 : Int32))) (Fwo : Fld Z h0 a1 c_0 "words" "[J" (.ref bw)) (Vw : Arv Z h0 bw kw .long (16 : Int32) ((.long x0) :: own_zl 15) (.long (0 : Int64))) (V3 : Arv Z h0 a3 k2 .long (2 : Int32) [(.long y0), (.long y1)] (.long (0 : Int64))) :
    MetFree l y_5 (head1 (Jvm.Cond.code y_5 prog_63_method_10_code 6 (some .boolean) :: ws) ({ frames := 0, cells := 0, slots := 0, locals := 0 } : Room)) (fun a U => a = #[(.ref a1), (.int (0 : Int32)), (.ref a3), (.int (0 : Int32))] ∧ Z.Warmed39 U.vm ∧ U.heap = h0) (fun _ _ _ _ _ => True) (fun _ U o U' => ∃ v L, o = .returned v ∧ Q7_1 Z a1 a3 bw kw k2 x0 y0 y1 h0 n0 v U'.heap L ∧ FrameEnd U o U' L ({ frames := 0, cells := 0, slots := 0, locals := 0 } : Room).cells ({ frames := 0, cells := 0, slots := 0, locals := 0 } : Room).slots) := by
  refine MetFree.of_bodySF (plainFor_of_name pn_7_1) hisR ?_
  intro p e s m args below meth c s₁ Bd hml0 hP hK
  obtain ⟨rfl, hZ, hh⟩ := hP
  have hx := Bd.exec
  have hby := Bd.bytes
  have hml : c.maxLocals = 6 := hml0
  have hown : s.vm.findClass "com/example/grammar_game_solver/grammargamesolver/summary/NumberedSets" = some m.cls := findClass_of_methodNamed Bd.named
  have hnm := (name_of_methodNamed Bd.named Bd.method).1
  have X0 : Stand p l e ({ frames := 0, cells := 0, slots := 0, locals := 0 } : Room) s m #[(.ref a1), (.int (0 : Int32)), (.ref a3), (.int (0 : Int32))] below meth c s₁ [] 0 0 := Stand.of_body Bd
  have e0 : s₁.heap = h0 := by rw [← hh, Bd.state]; rfl
  have N0 := Fr.nil n0
  obtain ⟨F0, hF0⟩ : ∃ F : JFrame, F = entryFrame m #[(.ref a1), (.int (0 : Int32)), (.ref a3), (.int (0 : Int32))] 6 := ⟨_, rfl⟩
  have pre0 : ∀ t, Steps p.tables e below (s₁.setTop F0) t → Steps p.tables e below (s₁.setTop (entryFrame m #[(.ref a1), (.int (0 : Int32)), (.ref a3), (.int (0 : Int32))] 6)) t := fun t k => hF0 ▸ k
  have go0 : Go p e below s₁ F0 s₁ (mkF m 0 #[vr a1, vi (0 : Int32), vr a3, vi (0 : Int32), .unset, .unset] []) := fun t k => castTop (hF0.trans (ef_7_1 m a1 a3)) k
  have go1 : Go p e below s₁ F0 s₁ (mkF m 2 #[vr a1, vi (0 : Int32), vr a3, vi (0 : Int32), .unset, .unset] [(.ref a1), (.int (0 : Int32))]) := by
    intro t_ k_
    refine go0 t_ ?_
    refine o_iloadN X0 hx (hb hby d7_0) rfl ?_
    refine o_aloadN X0 hx (hb hby d7_1) rfl rfl ?_
    exact k_
  obtain ⟨T2, X2, e2, st2⟩ := getF X0 hx hZ hown (host := "") (Or.inl (own_w hw 11 rfl)) Via.refl e0 Fwi (g := (mkF m 2 #[vr a1, vi (0 : Int32), vr a3, vi (0 : Int32), .unset, .unset] [(.ref a1), (.int (0 : Int32))])) rfl rfl (hb hby d7_2)
  have go3 : Go p e below s₁ F0 T2 (mkF m 5 #[vr a1, vi (0 : Int32), vr a3, vi (0 : Int32), .unset, .unset] [(.int (1 : Int32)), (.int (0 : Int32))]) := fun t_ k_ => go1 t_ (st2 t_ k_)
  have go4 : Go p e below s₁ F0 T2 (mkF m 14 #[vr a1, vi (0 : Int32), vr a3, vi (0 : Int32), vi (0 : Int32), vi (0 : Int32)] [(.ref a1), (.int (0 : Int32))]) := by
    intro t_ k_
    refine go3 t_ ?_
    refine o_imulE X2 hx (hb hby d7_5) (v := 0) rfl ?_
    refine o_istore X2 hx (hb hby d7_6) (L' := #[vr a1, vi (0 : Int32), vr a3, vi (0 : Int32), vi (0 : Int32), .unset]) rfl ?_
    refine o_iconst X2 hx (hb hby d7_8) (v := 0) rfl ?_
    refine o_istore X2 hx (hb hby d7_9) (L' := #[vr a1, vi (0 : Int32), vr a3, vi (0 : Int32), vi (0 : Int32), vi (0 : Int32)]) rfl ?_
    refine o_iload X2 hx (hb hby d7_11) rfl ?_
    refine o_aloadN X2 hx (hb hby d7_13) rfl rfl ?_
    exact k_
  obtain ⟨T5, X5, e5, st5⟩ := getF X2 hx hZ hown (host := "") (Or.inl (own_w hw 11 rfl)) Via.refl e2 Fwi (g := (mkF m 14 #[vr a1, vi (0 : Int32), vr a3, vi (0 : Int32), vi (0 : Int32), vi (0 : Int32)] [(.ref a1), (.int (0 : Int32))])) rfl rfl (hb hby d7_14)
  have go6 : Go p e below s₁ F0 T5 (mkF m 17 #[vr a1, vi (0 : Int32), vr a3, vi (0 : Int32), vi (0 : Int32), vi (0 : Int32)] [(.int (1 : Int32)), (.int (0 : Int32))]) := fun t_ k_ => go4 t_ (st5 t_ k_)
  have go7 : Go p e below s₁ F0 T5 (mkF m 21 #[vr a1, vi (0 : Int32), vr a3, vi (0 : Int32), vi (0 : Int32), vi (0 : Int32)] [(.ref a1)]) := by
    intro t_ k_
    refine go6 t_ ?_
    refine o_icmpNo X5 hx (hb hby d7_17) (tlt (by decide : (0 : Int32) < (1 : Int32))).2.1 ?_
    refine o_aloadN X5 hx (hb hby d7_20) rfl rfl ?_
    exact k_
  obtain ⟨T8, X8, e8, st8⟩ := getF X5 hx hZ hown (host := "") (Or.inl (own_w hw 13 rfl)) Via.refl e5 Fwo (g := (mkF m 21 #[vr a1, vi (0 : Int32), vr a3, vi (0 : Int32), vi (0 : Int32), vi (0 : Int32)] [(.ref a1)])) rfl rfl (hb hby d7_21)
  have go9 : Go p e below s₁ F0 T8 (mkF m 24 #[vr a1, vi (0 : Int32), vr a3, vi (0 : Int32), vi (0 : Int32), vi (0 : Int32)] [(.ref bw)]) := fun t_ k_ => go7 t_ (st8 t_ k_)
  have go10 : Go p e below s₁ F0 T8 (mkF m 29 #[vr a1, vi (0 : Int32), vr a3, vi (0 : Int32), vi (0 : Int32), vi (0 : Int32)] [(.int (0 : Int32)), (.ref bw)]) := by
    intro t_ k_
    refine go9 t_ ?_
    refine o_iload X8 hx (hb hby d7_24) rfl ?_
    refine o_iload X8 hx (hb hby d7_26) rfl ?_
    refine o_iaddE X8 hx (hb hby d7_28) (v := 0) rfl ?_
    exact k_
  obtain ⟨cl11, Ar11, -, Sz11, Nn11, Hs11, -⟩ := id Vw
  have hin11 : ¬ ((0 : Int32) < 0 ∨ cl11.slots.size ≤ ((0 : Int32)).toNatClampNeg) := inb_of Sz11 ⟨by decide, by decide⟩
  have hat11 : cl11.slots[((0 : Int32)).toNatClampNeg]? = some (.long x0) := Hs11.at hin11 rfl
  have go12 : Go p e below s₁ F0 T8 (mkF m 35 #[vr a1, vi (0 : Int32), vr a3, vi (0 : Int32), vi (0 : Int32), vi (0 : Int32)] [(.int (0 : Int32)), (.ref a3), (.long x0)]) := by
    intro t_ k_
    refine go10 t_ ?_
    refine o_laload X8 hx hZ e8 Ar11 hin11 hat11 (hb hby d7_29) ?_
    refine o_aloadN X8 hx (hb hby d7_30) rfl rfl ?_
    refine o_iloadN X8 hx (hb hby d7_31) rfl ?_
    refine o_iload X8 hx (hb hby d7_32) rfl ?_
    refine o_iaddE X8 hx (hb hby d7_34) (v := 0) rfl ?_
    exact k_
  obtain ⟨cl13, Ar13, -, Sz13, Nn13, Hs13, -⟩ := id V3
  have hin13 : ¬ ((0 : Int32) < 0 ∨ cl13.slots.size ≤ ((0 : Int32)).toNatClampNeg) := inb_of Sz13 ⟨by decide, by decide⟩
  have hat13 : cl13.slots[((0 : Int32)).toNatClampNeg]? = some (.long y0) := Hs13.at hin13 rfl
  have go14 : Go p e below s₁ F0 T8 (mkF m 37 #[vr a1, vi (0 : Int32), vr a3, vi (0 : Int32), vi (0 : Int32), vi (0 : Int32)] [(.int (lcmpW x0 y0))]) := by
    intro t_ k_
    refine go12 t_ ?_
    refine o_laload X8 hx hZ e8 Ar13 hin13 hat13 (hb hby d7_35) ?_
    refine o_lcmp X8 hx (hb hby d7_36) ?_
    exact k_
  by_cases hc37_15 : x0 = y0
  · skip
    have go16 : Go p e below s₁ F0 T8 (mkF m 14 #[vr a1, vi (0 : Int32), vr a3, vi (0 : Int32), vi (0 : Int32), vi (1 : Int32)] [(.ref a1), (.int (1 : Int32))]) := by
      intro t_ k_
      refine go14 t_ ?_
      refine o_ifYes X8 hx (hb hby d7_37) (pc' := 42) rfl (by decide) ((if0 _ _).trans (teq ((lw_eq _ _).mpr hc37_15)).1) ?_
      refine o_iinc X8 hx (hb hby d7_42) rfl (L' := #[vr a1, vi (0 : Int32), vr a3, vi (0 : Int32), vi (0 : Int32), vi (1 : Int32)]) rfl ?_
      refine o_goto X8 hx (hb hby d7_45) (pc' := 11) rfl (by decide) ?_
      refine o_iload X8 hx (hb hby d7_11) rfl ?_
      refine o_aloadN X8 hx (hb hby d7_13) rfl rfl ?_
      exact k_
    obtain ⟨T17, X17, e17, st17⟩ := getF X8 hx hZ hown (host := "") (Or.inl (own_w hw 11 rfl)) Via.refl e8 Fwi (g := (mkF m 14 #[vr a1, vi (0 : Int32), vr a3, vi (0 : Int32), vi (0 : Int32), vi (1 : Int32)] [(.ref a1), (.int (1 : Int32))])) rfl rfl (hb hby d7_14)
    have go18 : Go p e below s₁ F0 T17 (mkF m 17 #[vr a1, vi (0 : Int32), vr a3, vi (0 : Int32), vi (0 : Int32), vi (1 : Int32)] [(.int (1 : Int32)), (.int (1 : Int32))]) := fun t_ k_ => go16 t_ (st17 t_ k_)
    have go19 : Go p e below s₁ F0 T17 (mkF m 49 #[vr a1, vi (0 : Int32), vr a3, vi (0 : Int32), vi (0 : Int32), vi (1 : Int32)] [(.int (1 : Int32))]) := by
      intro t_ k_
      refine go18 t_ ?_
      refine o_icmpYes X17 hx (hb hby d7_17) (pc' := 48) rfl (by decide) (flt (by decide : ¬ ((1 : Int32) < (1 : Int32)))).2.1 ?_
      refine o_iconst X17 hx (hb hby d7_48) (v := 1) rfl ?_
      exact k_
    obtain ⟨fs, hr, hrun, hended, hW, hsame⟩ := X17.leave (v := some (.int (1 : Int32))) (fun h => by rw [Bd.returns] at h; cases h)
    refine ⟨_, _, pre0 _ (go19 _ ?_), hrun, hended, _, _, rfl, ?_, ⟨_, rfl⟩, hW, hsame.mono (by decide) (by decide)⟩
    · skip
      exact retN X17 hx (t := .boolean) Bd.returns (by simp) (hb hby d7_49) hr
    · show Q7_1 Z a1 a3 bw kw k2 x0 y0 y1 h0 n0 _ T17.heap _
      rw [e17]
      exact ⟨(congrArg (fun z => some (Value.int z)) (show (1 : Int32) = f7_1 x0 y0 y1 from by unfold f7_1; rw [if_pos hc37_15])), N0, rfl⟩
  · skip
    have go20 : Go p e below s₁ F0 T8 (mkF m 41 #[vr a1, vi (0 : Int32), vr a3, vi (0 : Int32), vi (0 : Int32), vi (0 : Int32)] [(.int (0 : Int32))]) := by
      intro t_ k_
      refine go14 t_ ?_
      refine o_ifNo X8 hx (hb hby d7_37) ((if0 _ _).trans (feq (fun q => hc37_15 ((lw_eq _ _).mp q))).1) ?_
      refine o_iconst X8 hx (hb hby d7_40) (v := 0) rfl ?_
      exact k_
    obtain ⟨fs, hr, hrun, hended, hW, hsame⟩ := X8.leave (v := some (.int (0 : Int32))) (fun h => by rw [Bd.returns] at h; cases h)
    refine ⟨_, _, pre0 _ (go20 _ ?_), hrun, hended, _, _, rfl, ?_, ⟨_, rfl⟩, hW, hsame.mono (by decide) (by decide)⟩
    · skip
      exact retN X8 hx (t := .boolean) Bd.returns (by simp) (hb hby d7_41) hr
    · show Q7_1 Z a1 a3 bw kw k2 x0 y0 y1 h0 n0 _ T8.heap _
      rw [e8]
      exact ⟨(congrArg (fun z => some (Value.int z)) (show (0 : Int32) = f7_1 x0 y0 y1 from by unfold f7_1; rw [if_neg hc37_15])), N0, rfl⟩

theorem own_neH_1 {x0 y0 : Int64} {hs hs2 : Int32} (h1 : hs = ((31 : Int32) + (f5 x0))) (h2 : hs2 = ((31 : Int32) + (f5 y0))) (h : ¬ hs = hs2) : ¬ x0 = y0 := by
  intro q
  apply h
  subst q
  rw [h1, h2]
theorem own_neT_1 {x0 y0 : Int64} {hs hs2 sl t : Int32} (h1 : hs = ((31 : Int32) + (f5 x0))) (h3 : sl = (f6 hs (31 : Int32))) (h2 : hs2 = ((31 : Int32) + (f5 y0))) (h4 : t = (f6 hs2 (31 : Int32))) (h : ¬ t = sl) : ¬ x0 = y0 := by
  intro q
  apply h
  subst q
  rw [h4, h3, h2, h1]
theorem own_eqT_1 {x0 y0 y1 : Int64} (h : ¬ (f7_1 x0 y0 y1) = (0 : Int32)) : x0 = y0 := by
  unfold f7_1 at h
  split at h
  · assumption
  · exact absurd rfl h
theorem own_neW_1 {x0 y0 y1 : Int64} (h : (f7_1 x0 y0 y1) = (0 : Int32)) : ¬ x0 = y0 := by
  intro q
  unfold f7_1 at h
  rw [if_pos q] at h
  exact absurd h (by decide)

theorem d4_62 : decode prog_63_method_6_code 62 = .ok (.aload_n 0, 1) := by decide +kernel
theorem d4_63 : decode prog_63_method_6_code 63 = .ok (.getfield 21, 3) := by decide +kernel
theorem d4_66 : decode prog_63_method_6_code 66 = .ok (.iload 5, 2) := by decide +kernel
theorem d4_68 : decode prog_63_method_6_code 68 = .ok (.iaload, 1) := by decide +kernel
theorem d4_69 : decode prog_63_method_6_code 69 = .ok (.iconst 1, 1) := by decide +kernel
theorem d4_70 : decode prog_63_method_6_code 70 = .ok (.isub, 1) := by decide +kernel
theorem d4_71 : decode prog_63_method_6_code 71 = .ok (.istore 6, 2) := by decide +kernel
theorem d4_73 : decode prog_63_method_6_code 73 = .ok (.aload_n 0, 1) := by decide +kernel
theorem d4_74 : decode prog_63_method_6_code 74 = .ok (.getfield 17, 3) := by decide +kernel
theorem d4_77 : decode prog_63_method_6_code 77 = .ok (.iload 6, 2) := by decide +kernel
theorem d4_79 : decode prog_63_method_6_code 79 = .ok (.iaload, 1) := by decide +kernel
theorem d4_80 : decode prog_63_method_6_code 80 = .ok (.iload_n 3, 1) := by decide +kernel
theorem d4_81 : decode prog_63_method_6_code 81 = .ok (.if_icmp .ne 17, 3) := by decide +kernel
theorem d4_84 : decode prog_63_method_6_code 84 = .ok (.aload_n 0, 1) := by decide +kernel
theorem d4_85 : decode prog_63_method_6_code 85 = .ok (.iload 6, 2) := by decide +kernel
theorem d4_87 : decode prog_63_method_6_code 87 = .ok (.aload_n 1, 1) := by decide +kernel
theorem d4_88 : decode prog_63_method_6_code 88 = .ok (.iload_n 2, 1) := by decide +kernel
theorem d4_89 : decode prog_63_method_6_code 89 = .ok (.invokevirtual 41, 3) := by decide +kernel
theorem d4_92 : decode prog_63_method_6_code 92 = .ok (.ifCond .eq 6, 3) := by decide +kernel
theorem d4_95 : decode prog_63_method_6_code 95 = .ok (.iload 6, 2) := by decide +kernel
theorem d4_97 : decode prog_63_method_6_code 97 = .ok (.ireturn, 1) := by decide +kernel
theorem d4_98 : decode prog_63_method_6_code 98 = .ok (.iload 5, 2) := by decide +kernel
theorem d4_100 : decode prog_63_method_6_code 100 = .ok (.iconst 1, 1) := by decide +kernel
theorem d4_101 : decode prog_63_method_6_code 101 = .ok (.iadd, 1) := by decide +kernel
theorem d4_102 : decode prog_63_method_6_code 102 = .ok (.iload 4, 2) := by decide +kernel
theorem d4_104 : decode prog_63_method_6_code 104 = .ok (.iand, 1) := by decide +kernel
theorem d4_105 : decode prog_63_method_6_code 105 = .ok (.istore 5, 2) := by decide +kernel
theorem d4_107 : decode prog_63_method_6_code 107 = .ok (.goto (-55), 3) := by decide +kernel
theorem pn_4_b1 : plainName "com/example/grammar_game_solver/grammargamesolver/summary/NumberedSets" = true := by first | (simp [plainName, overriddenIn]; done) | decide +kernel
theorem pd4_b1_0 : parseMethodDescriptor "(J)I" = some ⟨[.long], some .int⟩ := by decide +kernel
theorem pd4_b1_1 : parseMethodDescriptor "(II)I" = some ⟨[.int, .int], some .int⟩ := by decide +kernel
theorem pd4_b1_2 : parseMethodDescriptor "(I[JI)Z" = some ⟨[.int, (.array .long), .int], some .boolean⟩ := by decide +kernel
theorem ef_4_b1 (m : MethodId) (x0 : Addr) (x1 : Addr) : entryFrame m #[(.ref x0), (.ref x1), (.int (0 : Int32))] 7 = mkF m 0 #[vr x0, vr x1, vi (0 : Int32), .unset, .unset, .unset, .unset] [] := by first | (simp [entryFrame, mkF, argsToLocals, Value.category]; done) | rfl
def Q4_b1 (Z : State) (a1 : Addr) (a2 : Addr) (bw : Addr) (bh : Addr) (bs : Addr) (kw : ClassId) (kh : ClassId) (ks : ClassId) (k2 : ClassId) (hs : Int32) (sl : Int32) (x0 : Int64) (y0 : Int64) (y1 : Int64) (h0 : Heap) (n0 : Nat) (v : Option Value) (h : Heap) (L : List Loc) : Prop := ∃ n : Int32, ∃ w0 : Int64, v = some (.int n) ∧ Fr n0 L ∧ Keep h0 h [a1, bw, bh, bs] ∧ Fld Z h a1 c_0 "width" "I" (.int (1 : Int32)) ∧ Fld Z h a1 c_0 "words" "[J" (.ref bw) ∧ Arv Z h bw kw .long (16 : Int32) ((.long x0) :: (.long w0) :: own_zl 14) (.long (0 : Int64)) ∧ ((n = (0 : Int32) ∧ x0 = y0) ∨ (n = (1 : Int32) ∧ ¬ x0 = y0 ∧ w0 = y0))
set_option maxRecDepth 65536 in
set_option maxHeartbeats 40000000 in
theorem rm4_b1 (l : Launch) (Z : State) (a0 : Array Value) (hw : ∀ d ∈ tables_1, d.before a0 Z = true) (ws : List Jvm.Cond) (a1 : Addr) (a2 : Addr) (bw : Addr) (bh : Addr) (bs : Addr) (kw : ClassId) (kh : ClassId) (ks : ClassId) (k2 : ClassId) (hs : Int32) (sl : Int32) (x0 : Int64) (y0 : Int64) (y1 : Int64) (h0 : Heap) (n0 : Nat) (Z0 : n0 ≤ h0.size) (E0 : Exa Z h0 a1 c_0) (Fwi : Fld Z h0 a1 c_0 "width" "I" (.int (1 : Int32))) (Fwo : Fld Z h0 a1 c_0 "words" "[J" (.ref bw)) (Fha : Fld Z h0 a1 c_0 "hashes" "[I" (.ref bh)) (Fsl : Fld Z h0 a1 c_0 "slots" "[I" (.ref bs)) (Fco : Fld Z h0 a1 c_0 "count" "I" (.int (1 : Int32))) (Vw : Arv Z h0 bw kw .long (16 : Int32) ((.long x0) :: own_zl 15) (.long (0 : Int64))) (Vh : Arv Z h0 bh kh .int (16 : Int32) ((.int hs) :: own_zi 15) (.int (0 : Int32))) (Vs : Arv Z h0 bs ks .int (32 : Int32) (own_sl sl) (.int (0 : Int32))) (V2 : Arv Z h0 a2 k2 .long (2 : Int32) [(.long y0), (.long y1)] (.long (0 : Int64))) (g1 : n0 ≤ a1) (gw : n0 ≤ bw) (gh : n0 ≤ bh) (gs : n0 ≤ bs) (naw : a1 ≠ bw) (nah : a1 ≠ bh) (nas : a1 ≠ bs) (n2w : a2 ≠ bw) (n2h : a2 ≠ bh) (n2s : a2 ≠ bs) (n12 : a1 ≠ a2) (nwh : bw ≠ bh) (nws : bw ≠ bs) (nhs : bh ≠ bs) (hhs : hs = ((31 : Int32) + (f5 x0))) (hsl : sl = (f6 hs (31 : Int32))) :
    MetFree l y_3 (head1 (Jvm.Cond.code y_3 prog_63_method_6_code 7 (some .int) :: ws) ({ frames := 1, cells := 0, slots := 0, locals := 18 } : Room)) (fun a U => a = #[(.ref a1), (.ref a2), (.int (0 : Int32))] ∧ Z.Warmed39 U.vm ∧ U.heap = h0) (fun _ _ _ _ _ => True) (fun _ U o U' => ∃ v L, o = .returned v ∧ Q4_b1 Z a1 a2 bw bh bs kw kh ks k2 hs sl x0 y0 y1 h0 n0 v U'.heap L ∧ FrameEnd U o U' L ({ frames := 1, cells := 0, slots := 0, locals := 18 } : Room).cells ({ frames := 1, cells := 0, slots := 0, locals := 18 } : Room).slots) := by
  refine MetFree.of_bodySF (plainFor_of_name pn_4_b1) hisR ?_
  intro p e s m args below meth c s₁ Bd hml0 hP hK
  obtain ⟨rfl, hZ, hh⟩ := hP
  have hx := Bd.exec
  have hby := Bd.bytes
  have hml : c.maxLocals = 7 := hml0
  have hown : s.vm.findClass "com/example/grammar_game_solver/grammargamesolver/summary/NumberedSets" = some m.cls := findClass_of_methodNamed Bd.named
  have hnm := (name_of_methodNamed Bd.named Bd.method).1
  have X0 : Stand p l e ({ frames := 1, cells := 0, slots := 0, locals := 18 } : Room) s m #[(.ref a1), (.ref a2), (.int (0 : Int32))] below meth c s₁ [] 0 0 := Stand.of_body Bd
  have e0 : s₁.heap = h0 := by rw [← hh, Bd.state]; rfl
  have N0 := Fr.nil n0
  have K0 : Keep h0 h0 [a1, bw, bh, bs] := Keep.refl h0 [a1, bw, bh, bs]
  obtain ⟨F0, hF0⟩ : ∃ F : JFrame, F = entryFrame m #[(.ref a1), (.ref a2), (.int (0 : Int32))] 7 := ⟨_, rfl⟩
  have pre0 : ∀ t, Steps p.tables e below (s₁.setTop F0) t → Steps p.tables e below (s₁.setTop (entryFrame m #[(.ref a1), (.ref a2), (.int (0 : Int32))] 7)) t := fun t k => hF0 ▸ k
  have go0 : Go p e below s₁ F0 s₁ (mkF m 0 #[vr a1, vr a2, vi (0 : Int32), .unset, .unset, .unset, .unset] []) := fun t k => castTop (hF0.trans (ef_4_b1 m a1 a2)) k
  have go1 : Go p e below s₁ F0 s₁ (mkF m 8 #[vr a1, vr a2, vi (0 : Int32), vi (1 : Int32), vi (0 : Int32), .unset, .unset] [(.ref a1), (.int (0 : Int32))]) := by
    intro t_ k_
    refine go0 t_ ?_
    refine o_iconst X0 hx (hb hby d4_0) (v := 1) rfl ?_
    refine o_istoreN X0 hx (hb hby d4_1) (L' := #[vr a1, vr a2, vi (0 : Int32), vi (1 : Int32), .unset, .unset, .unset]) rfl ?_
    refine o_iconst X0 hx (hb hby d4_2) (v := 0) rfl ?_
    refine o_istore X0 hx (hb hby d4_3) (L' := #[vr a1, vr a2, vi (0 : Int32), vi (1 : Int32), vi (0 : Int32), .unset, .unset]) rfl ?_
    refine o_iload X0 hx (hb hby d4_5) rfl ?_
    refine o_aloadN X0 hx (hb hby d4_7) rfl rfl ?_
    exact k_
  obtain ⟨T2, X2, e2, st2⟩ := getF X0 hx hZ hown (host := "") (Or.inl (own_w hw 11 rfl)) Via.refl e0 Fwi (g := (mkF m 8 #[vr a1, vr a2, vi (0 : Int32), vi (1 : Int32), vi (0 : Int32), .unset, .unset] [(.ref a1), (.int (0 : Int32))])) rfl rfl (hb hby d4_8)
  have go3 : Go p e below s₁ F0 T2 (mkF m 11 #[vr a1, vr a2, vi (0 : Int32), vi (1 : Int32), vi (0 : Int32), .unset, .unset] [(.int (1 : Int32)), (.int (0 : Int32))]) := fun t_ k_ => go1 t_ (st2 t_ k_)
  have go4 : Go p e below s₁ F0 T2 (mkF m 23 #[vr a1, vr a2, vi (0 : Int32), vi (1 : Int32), vi (0 : Int32), .unset, .unset] [(.int (0 : Int32)), (.ref a2), (.int (31 : Int32))]) := by
    intro t_ k_
    refine go3 t_ ?_
    refine o_icmpNo X2 hx (hb hby d4_11) (tlt (by decide : (0 : Int32) < (1 : Int32))).2.1 ?_
    refine o_bipush X2 hx (hb hby d4_14) (v := 31) rfl ?_
    refine o_iloadN X2 hx (hb hby d4_16) rfl ?_
    refine o_imulE X2 hx (hb hby d4_17) (v := 31) rfl ?_
    refine o_aloadN X2 hx (hb hby d4_18) rfl rfl ?_
    refine o_iloadN X2 hx (hb hby d4_19) rfl ?_
    refine o_iload X2 hx (hb hby d4_20) rfl ?_
    refine o_iaddE X2 hx (hb hby d4_22) (v := 0) rfl ?_
    exact k_
  obtain ⟨cl5, Ar5, -, Sz5, Nn5, Hs5, -⟩ := id V2
  have hin5 : ¬ ((0 : Int32) < 0 ∨ cl5.slots.size ≤ ((0 : Int32)).toNatClampNeg) := inb_of Sz5 ⟨by decide, by decide⟩
  have hat5 : cl5.slots[((0 : Int32)).toNatClampNeg]? = some (.long y0) := Hs5.at hin5 rfl
  have go6 : Go p e below s₁ F0 T2 (mkF m 24 #[vr a1, vr a2, vi (0 : Int32), vi (1 : Int32), vi (0 : Int32), .unset, .unset] [(.long y0), (.int (31 : Int32))]) := by
    intro t_ k_
    refine go4 t_ ?_
    refine o_laload X2 hx hZ e2 Ar5 hin5 hat5 (hb hby d4_23) ?_
    exact k_
  obtain ⟨_, _, ⟨T7, L7, k7, n7⟩, -, X7, ⟨Lc7, hQ7, l7, y7, z7⟩, st7⟩ := Jvm.LawKit.callS X2 hx (y := y_0) hown (mvT hZ (own_w hw 29 rfl)) (mvT hZ (own_w hw 30 rfl)) (mvT hZ (own_w hw 31 rfl)) (mvT hZ (own_w hw 32 rfl)) (by decide) (backOf (W := 1) (rm5 l Z a0 hw [] y0 h0 n0 Z0 ) hZ (own_w hw 32 rfl) (own_w hw 31 rfl) (by decide) (by decide)) (g := (mkF m 24 #[vr a1, vr a2, vi (0 : Int32), vi (1 : Int32), vi (0 : Int32), .unset, .unset] [(.long y0), (.int (31 : Int32))])) rfl (by rw [hml]; rfl) (argsL := [(.long y0)]) (rest := [(.int (31 : Int32))]) (lenOf pd4_b1_0 rfl) rfl (by show 2 * 0 + _ ≤ _; exact Nat.le_of_eq rfl) (hb hby d4_24) (fun _ _ => ⟨rfl, e2, (by decide : 0 + 0 ≤ _), (by decide : 0 + 0 ≤ _)⟩)
  dsimp only [Pt.U, Pt.locs, Pt.cells, Pt.slots] at X7 l7 y7 z7 st7 hQ7
  subst l7 y7 z7
  obtain ⟨rfl, Nq7, eh7⟩ := hQ7
  have N7 := Fr.app N0 Nq7
  have go8 : Go p e below s₁ F0 T7 (mkF m 27 #[vr a1, vr a2, vi (0 : Int32), vi (1 : Int32), vi (0 : Int32), .unset, .unset] [(.int (f5 y0)), (.int (31 : Int32))]) := fun t_ k_ => go6 t_ (st7 t_ k_)
  have go9 : Go p e below s₁ F0 T7 (mkF m 8 #[vr a1, vr a2, vi (0 : Int32), vi ((31 : Int32) + (f5 y0)), vi (1 : Int32), .unset, .unset] [(.ref a1), (.int (1 : Int32))]) := by
    intro t_ k_
    refine go8 t_ ?_
    refine o_iadd X7 hx (hb hby d4_27) ?_
    refine o_istoreN X7 hx (hb hby d4_28) (L' := #[vr a1, vr a2, vi (0 : Int32), vi ((31 : Int32) + (f5 y0)), vi (0 : Int32), .unset, .unset]) rfl ?_
    refine o_iinc X7 hx (hb hby d4_29) rfl (L' := #[vr a1, vr a2, vi (0 : Int32), vi ((31 : Int32) + (f5 y0)), vi (1 : Int32), .unset, .unset]) rfl ?_
    refine o_goto X7 hx (hb hby d4_32) (pc' := 5) rfl (by decide) ?_
    refine o_iload X7 hx (hb hby d4_5) rfl ?_
    refine o_aloadN X7 hx (hb hby d4_7) rfl rfl ?_
    exact k_
  obtain ⟨T10, X10, e10, st10⟩ := getF X7 hx hZ hown (host := "") (Or.inl (own_w hw 11 rfl)) Via.refl eh7 Fwi (g := (mkF m 8 #[vr a1, vr a2, vi (0 : Int32), vi ((31 : Int32) + (f5 y0)), vi (1 : Int32), .unset, .unset] [(.ref a1), (.int (1 : Int32))])) rfl rfl (hb hby d4_8)
  have go11 : Go p e below s₁ F0 T10 (mkF m 11 #[vr a1, vr a2, vi (0 : Int32), vi ((31 : Int32) + (f5 y0)), vi (1 : Int32), .unset, .unset] [(.int (1 : Int32)), (.int (1 : Int32))]) := fun t_ k_ => go9 t_ (st10 t_ k_)
  have go12 : Go p e below s₁ F0 T10 (mkF m 35 #[vr a1, vr a2, vi (0 : Int32), vi ((31 : Int32) + (f5 y0)), vi (1 : Int32), .unset, .unset] []) := by
    intro t_ k_
    refine go11 t_ ?_
    refine o_icmpYes X10 hx (hb hby d4_11) (pc' := 35) rfl (by decide) (flt (by decide : ¬ ((1 : Int32) < (1 : Int32)))).2.1 ?_
    exact k_
  obtain ⟨hs2, h_hs2⟩ : ∃ z : Int32, z = ((31 : Int32) + (f5 y0)) := ⟨_, rfl⟩
  have go13 : Go p e below s₁ F0 T10 (mkF m 35 #[vr a1, vr a2, vi (0 : Int32), vi hs2, vi (1 : Int32), .unset, .unset] []) := by rw [h_hs2]; exact go12
  have go14 : Go p e below s₁ F0 T10 (mkF m 36 #[vr a1, vr a2, vi (0 : Int32), vi hs2, vi (1 : Int32), .unset, .unset] [(.ref a1)]) := by
    intro t_ k_
    refine go13 t_ ?_
    refine o_aloadN X10 hx (hb hby d4_35) rfl rfl ?_
    exact k_
  obtain ⟨T15, X15, e15, st15⟩ := getF X10 hx hZ hown (host := "") (Or.inl (own_w hw 18 rfl)) Via.refl e10 Fsl (g := (mkF m 36 #[vr a1, vr a2, vi (0 : Int32), vi hs2, vi (1 : Int32), .unset, .unset] [(.ref a1)])) rfl rfl (hb hby d4_36)
  have go16 : Go p e below s₁ F0 T15 (mkF m 39 #[vr a1, vr a2, vi (0 : Int32), vi hs2, vi (1 : Int32), .unset, .unset] [(.ref bs)]) := fun t_ k_ => go14 t_ (st15 t_ k_)
  obtain ⟨cl17, Ar17, -, Sz17, Nn17, -, -⟩ := id Vs
  have go18 : Go p e below s₁ F0 T15 (mkF m 47 #[vr a1, vr a2, vi (0 : Int32), vi hs2, vi (31 : Int32), .unset, .unset] [(.int (31 : Int32)), (.int hs2)]) := by
    intro t_ k_
    refine go16 t_ ?_
    refine o_len X15 hx hZ e15 Ar17 Sz17 Nn17 (hb hby d4_39) ?_
    refine o_iconst X15 hx (hb hby d4_40) (v := 1) rfl ?_
    refine o_isubE X15 hx (hb hby d4_41) (v := 31) rfl ?_
    refine o_istore X15 hx (hb hby d4_42) (L' := #[vr a1, vr a2, vi (0 : Int32), vi hs2, vi (31 : Int32), .unset, .unset]) rfl ?_
    refine o_iloadN X15 hx (hb hby d4_44) rfl ?_
    refine o_iload X15 hx (hb hby d4_45) rfl ?_
    exact k_
  obtain ⟨_, _, ⟨T19, L19, k19, n19⟩, -, X19, ⟨Lc19, hQ19, l19, y19, z19⟩, st19⟩ := Jvm.LawKit.callS X15 hx (y := y_1) hown (mvT hZ (own_w hw 33 rfl)) (mvT hZ (own_w hw 34 rfl)) (mvT hZ (own_w hw 4 rfl)) (mvT hZ (own_w hw 35 rfl)) (by decide) (backOf (W := 0) (rm6 l Z a0 hw [] hs2 (31 : Int32) h0 n0 Z0 ) hZ (own_w hw 35 rfl) (own_w hw 4 rfl) (by decide) (by decide)) (g := (mkF m 47 #[vr a1, vr a2, vi (0 : Int32), vi hs2, vi (31 : Int32), .unset, .unset] [(.int (31 : Int32)), (.int hs2)])) rfl (by rw [hml]; rfl) (argsL := [(.int hs2), (.int (31 : Int32))]) (rest := []) (lenOf pd4_b1_1 rfl) rfl (by show 2 * 0 + _ ≤ _; exact Nat.le_of_eq rfl) (hb hby d4_47) (fun _ _ => ⟨rfl, e15, (by decide : 0 + 0 ≤ _), (by decide : 0 + 0 ≤ _)⟩)
  dsimp only [Pt.U, Pt.locs, Pt.cells, Pt.slots] at X19 l19 y19 z19 st19 hQ19
  subst l19 y19 z19
  obtain ⟨rfl, Nq19, eh19⟩ := hQ19
  have N19 := Fr.app N7 Nq19
  have go20 : Go p e below s₁ F0 T19 (mkF m 50 #[vr a1, vr a2, vi (0 : Int32), vi hs2, vi (31 : Int32), .unset, .unset] [(.int (f6 hs2 (31 : Int32)))]) := fun t_ k_ => go18 t_ (st19 t_ k_)
  have go21 : Go p e below s₁ F0 T19 (mkF m 52 #[vr a1, vr a2, vi (0 : Int32), vi hs2, vi (31 : Int32), vi (f6 hs2 (31 : Int32)), .unset] []) := by
    intro t_ k_
    refine go20 t_ ?_
    refine o_istore X19 hx (hb hby d4_50) (L' := #[vr a1, vr a2, vi (0 : Int32), vi hs2, vi (31 : Int32), vi (f6 hs2 (31 : Int32)), .unset]) rfl ?_
    exact k_
  obtain ⟨t, h_t⟩ : ∃ z : Int32, z = (f6 hs2 (31 : Int32)) := ⟨_, rfl⟩
  have go22 : Go p e below s₁ F0 T19 (mkF m 52 #[vr a1, vr a2, vi (0 : Int32), vi hs2, vi (31 : Int32), vi t, .unset] []) := by rw [h_t]; exact go21
  by_cases hb52_23 : t = sl
  · skip
    have go24 : Go p e below s₁ F0 T19 (mkF m 53 #[vr a1, vr a2, vi (0 : Int32), vi hs2, vi (31 : Int32), vi t, .unset] [(.ref a1)]) := by
      intro t_ k_
      refine go22 t_ ?_
      refine o_aloadN X19 hx (hb hby d4_52) rfl rfl ?_
      exact k_
    obtain ⟨T25, X25, e25, st25⟩ := getF X19 hx hZ hown (host := "") (Or.inl (own_w hw 18 rfl)) Via.refl eh19 Fsl (g := (mkF m 53 #[vr a1, vr a2, vi (0 : Int32), vi hs2, vi (31 : Int32), vi t, .unset] [(.ref a1)])) rfl rfl (hb hby d4_53)
    have go26 : Go p e below s₁ F0 T25 (mkF m 56 #[vr a1, vr a2, vi (0 : Int32), vi hs2, vi (31 : Int32), vi t, .unset] [(.ref bs)]) := fun t_ k_ => go24 t_ (st25 t_ k_)
    have go27 : Go p e below s₁ F0 T25 (mkF m 58 #[vr a1, vr a2, vi (0 : Int32), vi hs2, vi (31 : Int32), vi t, .unset] [(.int t), (.ref bs)]) := by
      intro t_ k_
      refine go26 t_ ?_
      refine o_iload X25 hx (hb hby d4_56) rfl ?_
      exact k_
    obtain ⟨cl28, Ar28, -, Sz28, Nn28, Hs28, -⟩ := id Vs
    have hin28 : ¬ (t < 0 ∨ cl28.slots.size ≤ (t).toNatClampNeg) := inb_of Sz28 (own_in h_t)
    have hat28 : cl28.slots[(t).toNatClampNeg]? = some (.int (1 : Int32)) := Hs28.at hin28 (own_hit (own_in hsl) hb52_23)
    have go29 : Go p e below s₁ F0 T25 (mkF m 63 #[vr a1, vr a2, vi (0 : Int32), vi hs2, vi (31 : Int32), vi t, .unset] [(.ref a1)]) := by
      intro t_ k_
      refine go27 t_ ?_
      refine o_iaload X25 hx hZ e25 Ar28 hin28 hat28 (hb hby d4_58) ?_
      refine o_ifNo X25 hx (hb hby d4_59) ((if0 _ _).trans (feq (by decide : ¬ ((1 : Int32) = (0 : Int32)))).1) ?_
      refine o_aloadN X25 hx (hb hby d4_62) rfl rfl ?_
      exact k_
    obtain ⟨T30, X30, e30, st30⟩ := getF X25 hx hZ hown (host := "") (Or.inl (own_w hw 18 rfl)) Via.refl e25 Fsl (g := (mkF m 63 #[vr a1, vr a2, vi (0 : Int32), vi hs2, vi (31 : Int32), vi t, .unset] [(.ref a1)])) rfl rfl (hb hby d4_63)
    have go31 : Go p e below s₁ F0 T30 (mkF m 66 #[vr a1, vr a2, vi (0 : Int32), vi hs2, vi (31 : Int32), vi t, .unset] [(.ref bs)]) := fun t_ k_ => go29 t_ (st30 t_ k_)
    have go32 : Go p e below s₁ F0 T30 (mkF m 68 #[vr a1, vr a2, vi (0 : Int32), vi hs2, vi (31 : Int32), vi t, .unset] [(.int t), (.ref bs)]) := by
      intro t_ k_
      refine go31 t_ ?_
      refine o_iload X30 hx (hb hby d4_66) rfl ?_
      exact k_
    obtain ⟨cl33, Ar33, -, Sz33, Nn33, Hs33, -⟩ := id Vs
    have hin33 : ¬ (t < 0 ∨ cl33.slots.size ≤ (t).toNatClampNeg) := inb_of Sz33 (own_in h_t)
    have hat33 : cl33.slots[(t).toNatClampNeg]? = some (.int (1 : Int32)) := Hs33.at hin33 (own_hit (own_in hsl) hb52_23)
    have go34 : Go p e below s₁ F0 T30 (mkF m 74 #[vr a1, vr a2, vi (0 : Int32), vi hs2, vi (31 : Int32), vi t, vi (0 : Int32)] [(.ref a1)]) := by
      intro t_ k_
      refine go32 t_ ?_
      refine o_iaload X30 hx hZ e30 Ar33 hin33 hat33 (hb hby d4_68) ?_
      refine o_iconst X30 hx (hb hby d4_69) (v := 1) rfl ?_
      refine o_isubE X30 hx (hb hby d4_70) (v := 0) rfl ?_
      refine o_istore X30 hx (hb hby d4_71) (L' := #[vr a1, vr a2, vi (0 : Int32), vi hs2, vi (31 : Int32), vi t, vi (0 : Int32)]) rfl ?_
      refine o_aloadN X30 hx (hb hby d4_73) rfl rfl ?_
      exact k_
    obtain ⟨T35, X35, e35, st35⟩ := getF X30 hx hZ hown (host := "") (Or.inl (own_w hw 16 rfl)) Via.refl e30 Fha (g := (mkF m 74 #[vr a1, vr a2, vi (0 : Int32), vi hs2, vi (31 : Int32), vi t, vi (0 : Int32)] [(.ref a1)])) rfl rfl (hb hby d4_74)
    have go36 : Go p e below s₁ F0 T35 (mkF m 77 #[vr a1, vr a2, vi (0 : Int32), vi hs2, vi (31 : Int32), vi t, vi (0 : Int32)] [(.ref bh)]) := fun t_ k_ => go34 t_ (st35 t_ k_)
    have go37 : Go p e below s₁ F0 T35 (mkF m 79 #[vr a1, vr a2, vi (0 : Int32), vi hs2, vi (31 : Int32), vi t, vi (0 : Int32)] [(.int (0 : Int32)), (.ref bh)]) := by
      intro t_ k_
      refine go36 t_ ?_
      refine o_iload X35 hx (hb hby d4_77) rfl ?_
      exact k_
    obtain ⟨cl38, Ar38, -, Sz38, Nn38, Hs38, -⟩ := id Vh
    have hin38 : ¬ ((0 : Int32) < 0 ∨ cl38.slots.size ≤ ((0 : Int32)).toNatClampNeg) := inb_of Sz38 ⟨by decide, by decide⟩
    have hat38 : cl38.slots[((0 : Int32)).toNatClampNeg]? = some (.int hs) := Hs38.at hin38 rfl
    have go39 : Go p e below s₁ F0 T35 (mkF m 81 #[vr a1, vr a2, vi (0 : Int32), vi hs2, vi (31 : Int32), vi t, vi (0 : Int32)] [(.int hs2), (.int hs)]) := by
      intro t_ k_
      refine go37 t_ ?_
      refine o_iaload X35 hx hZ e35 Ar38 hin38 hat38 (hb hby d4_79) ?_
      refine o_iloadN X35 hx (hb hby d4_80) rfl ?_
      exact k_
    by_cases hc81_40 : hs = hs2
    · skip
      have go41 : Go p e below s₁ F0 T35 (mkF m 89 #[vr a1, vr a2, vi (0 : Int32), vi hs2, vi (31 : Int32), vi t, vi (0 : Int32)] [(.int (0 : Int32)), (.ref a2), (.int (0 : Int32)), (.ref a1)]) := by
        intro t_ k_
        refine go39 t_ ?_
        refine o_icmpNo X35 hx (hb hby d4_81) (teq hc81_40).2 ?_
        refine o_aloadN X35 hx (hb hby d4_84) rfl rfl ?_
        refine o_iload X35 hx (hb hby d4_85) rfl ?_
        refine o_aloadN X35 hx (hb hby d4_87) rfl rfl ?_
        refine o_iloadN X35 hx (hb hby d4_88) rfl ?_
        exact k_
      obtain ⟨cq42, q42, q42'⟩ := E0.cell
      obtain ⟨_, _, ⟨T42, L42, k42, n42⟩, -, X42, ⟨Lc42, hQ42, l42, y42, z42⟩, st42⟩ := X35.privateBack hx (y := y_5) hown (mvT hZ (own_w hw 43 rfl)) (mvT hZ (own_w hw 44 rfl)) (own_selp (mvT hZ (own_w hw 3 rfl)) (mvP hZ (own_w hw 45 rfl)) (mvT hZ (own_w hw 44 rfl)) (by decide)) (Cond.privateMethod_at (mvP hZ (own_w hw 45 rfl) (args := #[]))) (mvT hZ (own_w hw 46 rfl)) (by decide) (backOf (W := 0) (rm7_1 l Z a0 hw [] a1 a2 bw kw k2 x0 y0 y1 h0 n0 Z0 Fwi Fwo Vw V2) hZ (own_w hw 46 rfl) (own_w hw 4 rfl) (by decide) (by decide)) (g := (mkF m 89 #[vr a1, vr a2, vi (0 : Int32), vi hs2, vi (31 : Int32), vi t, vi (0 : Int32)] [(.int (0 : Int32)), (.ref a2), (.int (0 : Int32)), (.ref a1)])) rfl (by rw [hml]; rfl) (Steps.refl _) (a := a1) (by rw [e35]; exact q42) q42' (argsL := [(.int (0 : Int32)), (.ref a2), (.int (0 : Int32))]) (rest := []) (lenOf pd4_b1_2 rfl) rfl (by show 2 * 0 + _ ≤ _; exact Nat.le_of_eq rfl) (hb hby d4_89) (fun _ _ => ⟨rfl, e35, (by decide : 0 + 0 ≤ _), (by decide : 0 + 0 ≤ _)⟩)
      dsimp only [Pt.U, Pt.locs, Pt.cells, Pt.slots] at X42 l42 y42 z42 st42 hQ42
      subst l42 y42 z42
      obtain ⟨rfl, Nq42, eh42⟩ := hQ42
      have N42 := Fr.app N19 Nq42
      have go43 : Go p e below s₁ F0 T42 (mkF m 92 #[vr a1, vr a2, vi (0 : Int32), vi hs2, vi (31 : Int32), vi t, vi (0 : Int32)] [(.int (f7_1 x0 y0 y1))]) := fun t_ k_ => go41 t_ (st42.trans k_)
      by_cases hc92_44 : (f7_1 x0 y0 y1) = (0 : Int32)
      · skip
        have go46 : Go p e below s₁ F0 T42 (mkF m 52 #[vr a1, vr a2, vi (0 : Int32), vi hs2, vi (31 : Int32), vi ((t + (1 : Int32)) &&& (31 : Int32)), vi (0 : Int32)] []) := by
          intro t_ k_
          refine go43 t_ ?_
          refine o_ifYes X42 hx (hb hby d4_92) (pc' := 98) rfl (by decide) ((if0 _ _).trans (teq hc92_44).1) ?_
          refine o_iload X42 hx (hb hby d4_98) rfl ?_
          refine o_iconst X42 hx (hb hby d4_100) (v := 1) rfl ?_
          refine o_iadd X42 hx (hb hby d4_101) ?_
          refine o_iload X42 hx (hb hby d4_102) rfl ?_
          refine o_iand X42 hx (hb hby d4_104) ?_
          refine o_istore X42 hx (hb hby d4_105) (L' := #[vr a1, vr a2, vi (0 : Int32), vi hs2, vi (31 : Int32), vi ((t + (1 : Int32)) &&& (31 : Int32)), vi (0 : Int32)]) rfl ?_
          refine o_goto X42 hx (hb hby d4_107) (pc' := 52) rfl (by decide) ?_
          exact k_
        obtain ⟨t45, h_t45⟩ : ∃ z : Int32, z = ((t + (1 : Int32)) &&& (31 : Int32)) := ⟨_, rfl⟩
        have go47 : Go p e below s₁ F0 T42 (mkF m 52 #[vr a1, vr a2, vi (0 : Int32), vi hs2, vi (31 : Int32), vi t45, vi (0 : Int32)] []) := by rw [h_t45]; exact go46
        have go48 : Go p e below s₁ F0 T42 (mkF m 53 #[vr a1, vr a2, vi (0 : Int32), vi hs2, vi (31 : Int32), vi t45, vi (0 : Int32)] [(.ref a1)]) := by
          intro t_ k_
          refine go47 t_ ?_
          refine o_aloadN X42 hx (hb hby d4_52) rfl rfl ?_
          exact k_
        obtain ⟨T49, X49, e49, st49⟩ := getF X42 hx hZ hown (host := "") (Or.inl (own_w hw 18 rfl)) Via.refl eh42 Fsl (g := (mkF m 53 #[vr a1, vr a2, vi (0 : Int32), vi hs2, vi (31 : Int32), vi t45, vi (0 : Int32)] [(.ref a1)])) rfl rfl (hb hby d4_53)
        have go50 : Go p e below s₁ F0 T49 (mkF m 56 #[vr a1, vr a2, vi (0 : Int32), vi hs2, vi (31 : Int32), vi t45, vi (0 : Int32)] [(.ref bs)]) := fun t_ k_ => go48 t_ (st49 t_ k_)
        have go51 : Go p e below s₁ F0 T49 (mkF m 58 #[vr a1, vr a2, vi (0 : Int32), vi hs2, vi (31 : Int32), vi t45, vi (0 : Int32)] [(.int t45), (.ref bs)]) := by
          intro t_ k_
          refine go50 t_ ?_
          refine o_iload X49 hx (hb hby d4_56) rfl ?_
          exact k_
        obtain ⟨cl52, Ar52, -, Sz52, Nn52, Hs52, -⟩ := id Vs
        have hin52 : ¬ (t45 < 0 ∨ cl52.slots.size ≤ (t45).toNatClampNeg) := inb_of Sz52 (own_in2 h_t45)
        have hat52 : cl52.slots[(t45).toNatClampNeg]? = some (.int (0 : Int32)) := Hs52.at hin52 (own_miss (own_in2 h_t45) (own_in hsl) (own_next (own_in hsl) hb52_23 h_t45))
        have go53 : Go p e below s₁ F0 T49 (mkF m 112 #[vr a1, vr a2, vi (0 : Int32), vi hs2, vi (31 : Int32), vi t45, vi (0 : Int32)] [(.ref a1), (.ref a1)]) := by
          intro t_ k_
          refine go51 t_ ?_
          refine o_iaload X49 hx hZ e49 Ar52 hin52 hat52 (hb hby d4_58) ?_
          refine o_ifYes X49 hx (hb hby d4_59) (pc' := 110) rfl (by decide) ((if0 _ _).trans (teq (by decide : (0 : Int32) = (0 : Int32))).1) ?_
          refine o_aloadN X49 hx (hb hby d4_110) rfl rfl ?_
          refine o_dup X49 hx (hb hby d4_111) rfl ?_
          exact k_
        obtain ⟨T54, X54, e54, st54⟩ := getF X49 hx hZ hown (host := "") (Or.inl (own_w hw 37 rfl)) Via.refl e49 Fco (g := (mkF m 112 #[vr a1, vr a2, vi (0 : Int32), vi hs2, vi (31 : Int32), vi t45, vi (0 : Int32)] [(.ref a1), (.ref a1)])) rfl rfl (hb hby d4_112)
        have go55 : Go p e below s₁ F0 T54 (mkF m 115 #[vr a1, vr a2, vi (0 : Int32), vi hs2, vi (31 : Int32), vi t45, vi (0 : Int32)] [(.int (1 : Int32)), (.ref a1)]) := fun t_ k_ => go53 t_ (st54 t_ k_)
        have go56 : Go p e below s₁ F0 T54 (mkF m 118 #[vr a1, vr a2, vi (0 : Int32), vi hs2, vi (31 : Int32), vi t45, vi (0 : Int32)] [(.int (2 : Int32)), (.ref a1), (.int (1 : Int32))]) := by
          intro t_ k_
          refine go55 t_ ?_
          refine o_dupX1 X54 hx (hb hby d4_115) rfl rfl ?_
          refine o_iconst X54 hx (hb hby d4_116) (v := 1) rfl ?_
          refine o_iaddE X54 hx (hb hby d4_117) (v := 2) rfl ?_
          exact k_
        obtain ⟨T57, h57, X57, e57, W57, st57⟩ := putF X54 hx hZ hown (host := "") (Or.inl (own_w hw 37 rfl)) Via.refl e54 Fco E0 (Or.inl (own_w hw 38 rfl)) (own_w hw 3 rfl) (ty := .int) (by decide) rfl rfl (g := (mkF m 118 #[vr a1, vr a2, vi (0 : Int32), vi hs2, vi (31 : Int32), vi t45, vi (0 : Int32)] [(.int (2 : Int32)), (.ref a1), (.int (1 : Int32))])) rfl rfl (hb hby d4_118)
        have Fw57 : Fld Z h57 a1 c_0 "count" "I" (.int (2 : Int32)) := Fld.same W57 Fco
        have K58 : Keep h0 h57 [a1, bw, bh, bs] := K0.wr W57 (Or.inl (List.mem_of_getElem? (i := 0) rfl))
        have Z58 : n0 ≤ h57.size := Nat.le_trans Z0 (Keep.of_wr W57).1
        have N57 := Fr.snoc X57 N42 g1
        have go59 : Go p e below s₁ F0 T57 (mkF m 121 #[vr a1, vr a2, vi (0 : Int32), vi hs2, vi (31 : Int32), vi t45, vi (0 : Int32)] [(.int (1 : Int32))]) := fun t_ k_ => go56 t_ (st57 t_ k_)
        have F60 : Fld Z h57 a1 c_0 "hashes" "[I" (.ref bh) := (Fha.other W57 (Or.inr (slot_ne (Or.inl (own_w hw 17 rfl)) (Or.inl (own_w hw 38 rfl)) (by decide) (t := (.array .int)) (t' := .int) (by decide) (by decide))))
        have go61 : Go p e below s₁ F0 T57 (mkF m 126 #[vr a1, vr a2, vi (0 : Int32), vi hs2, vi (31 : Int32), vi t45, vi (1 : Int32)] [(.ref a1), (.int (1 : Int32))]) := by
          intro t_ k_
          refine go59 t_ ?_
          refine o_istore X57 hx (hb hby d4_121) (L' := #[vr a1, vr a2, vi (0 : Int32), vi hs2, vi (31 : Int32), vi t45, vi (1 : Int32)]) rfl ?_
          refine o_iload X57 hx (hb hby d4_123) rfl ?_
          refine o_aloadN X57 hx (hb hby d4_125) rfl rfl ?_
          exact k_
        obtain ⟨T62, X62, e62, st62⟩ := getF X57 hx hZ hown (host := "") (Or.inl (own_w hw 16 rfl)) Via.refl e57 F60 (g := (mkF m 126 #[vr a1, vr a2, vi (0 : Int32), vi hs2, vi (31 : Int32), vi t45, vi (1 : Int32)] [(.ref a1), (.int (1 : Int32))])) rfl rfl (hb hby d4_126)
        have go63 : Go p e below s₁ F0 T62 (mkF m 129 #[vr a1, vr a2, vi (0 : Int32), vi hs2, vi (31 : Int32), vi t45, vi (1 : Int32)] [(.ref bh), (.int (1 : Int32))]) := fun t_ k_ => go61 t_ (st62 t_ k_)
        have F64 : Arv Z h57 bh kh .int (16 : Int32) ((.int hs) :: own_zi 15) (.int (0 : Int32)) := (Vh.other W57 (Ne.symm nah))
        obtain ⟨cl65, Ar65, -, Sz65, Nn65, -, -⟩ := id F64
        have F66 : Fld Z h57 a1 c_0 "words" "[J" (.ref bw) := (Fwo.other W57 (Or.inr (slot_ne (Or.inl (own_w hw 14 rfl)) (Or.inl (own_w hw 38 rfl)) (by decide) (t := (.array .long)) (t' := .int) (by decide) (by decide))))
        have go67 : Go p e below s₁ F0 T62 (mkF m 171 #[vr a1, vr a2, vi (0 : Int32), vi hs2, vi (31 : Int32), vi t45, vi (1 : Int32)] [(.ref a1), (.int (0 : Int32)), (.ref a2)]) := by
          intro t_ k_
          refine go63 t_ ?_
          refine o_len X62 hx hZ e62 Ar65 Sz65 Nn65 (hb hby d4_129) ?_
          refine o_icmpYes X62 hx (hb hby d4_130) (pc' := 168) rfl (by decide) (feq (by decide : ¬ ((1 : Int32) = (16 : Int32)))).2 ?_
          refine o_aloadN X62 hx (hb hby d4_168) rfl rfl ?_
          refine o_iloadN X62 hx (hb hby d4_169) rfl ?_
          refine o_aloadN X62 hx (hb hby d4_170) rfl rfl ?_
          exact k_
        obtain ⟨T68, X68, e68, st68⟩ := getF X62 hx hZ hown (host := "") (Or.inl (own_w hw 13 rfl)) Via.refl e62 F66 (g := (mkF m 171 #[vr a1, vr a2, vi (0 : Int32), vi hs2, vi (31 : Int32), vi t45, vi (1 : Int32)] [(.ref a1), (.int (0 : Int32)), (.ref a2)])) rfl rfl (hb hby d4_171)
        have go69 : Go p e below s₁ F0 T68 (mkF m 174 #[vr a1, vr a2, vi (0 : Int32), vi hs2, vi (31 : Int32), vi t45, vi (1 : Int32)] [(.ref bw), (.int (0 : Int32)), (.ref a2)]) := fun t_ k_ => go67 t_ (st68 t_ k_)
        have F70 : Fld Z h57 a1 c_0 "width" "I" (.int (1 : Int32)) := (Fwi.other W57 (Or.inr (slot_ne (Or.inr (own_w hw 12 rfl)) (Or.inl (own_w hw 38 rfl)) (by decide) (t := .int) (t' := .int) (by decide) (by decide))))
        have go71 : Go p e below s₁ F0 T68 (mkF m 177 #[vr a1, vr a2, vi (0 : Int32), vi hs2, vi (31 : Int32), vi t45, vi (1 : Int32)] [(.ref a1), (.int (1 : Int32)), (.ref bw), (.int (0 : Int32)), (.ref a2)]) := by
          intro t_ k_
          refine go69 t_ ?_
          refine o_iload X68 hx (hb hby d4_174) rfl ?_
          refine o_aloadN X68 hx (hb hby d4_176) rfl rfl ?_
          exact k_
        obtain ⟨T72, X72, e72, st72⟩ := getF X68 hx hZ hown (host := "") (Or.inl (own_w hw 11 rfl)) Via.refl e68 F70 (g := (mkF m 177 #[vr a1, vr a2, vi (0 : Int32), vi hs2, vi (31 : Int32), vi t45, vi (1 : Int32)] [(.ref a1), (.int (1 : Int32)), (.ref bw), (.int (0 : Int32)), (.ref a2)])) rfl rfl (hb hby d4_177)
        have go73 : Go p e below s₁ F0 T72 (mkF m 180 #[vr a1, vr a2, vi (0 : Int32), vi hs2, vi (31 : Int32), vi t45, vi (1 : Int32)] [(.int (1 : Int32)), (.int (1 : Int32)), (.ref bw), (.int (0 : Int32)), (.ref a2)]) := fun t_ k_ => go71 t_ (st72 t_ k_)
        have go74 : Go p e below s₁ F0 T72 (mkF m 182 #[vr a1, vr a2, vi (0 : Int32), vi hs2, vi (31 : Int32), vi t45, vi (1 : Int32)] [(.ref a1), (.int (1 : Int32)), (.ref bw), (.int (0 : Int32)), (.ref a2)]) := by
          intro t_ k_
          refine go73 t_ ?_
          refine o_imulE X72 hx (hb hby d4_180) (v := 1) rfl ?_
          refine o_aloadN X72 hx (hb hby d4_181) rfl rfl ?_
          exact k_
        obtain ⟨T75, X75, e75, st75⟩ := getF X72 hx hZ hown (host := "") (Or.inl (own_w hw 11 rfl)) Via.refl e72 F70 (g := (mkF m 182 #[vr a1, vr a2, vi (0 : Int32), vi hs2, vi (31 : Int32), vi t45, vi (1 : Int32)] [(.ref a1), (.int (1 : Int32)), (.ref bw), (.int (0 : Int32)), (.ref a2)])) rfl rfl (hb hby d4_182)
        have go76 : Go p e below s₁ F0 T75 (mkF m 185 #[vr a1, vr a2, vi (0 : Int32), vi hs2, vi (31 : Int32), vi t45, vi (1 : Int32)] [(.int (1 : Int32)), (.int (1 : Int32)), (.ref bw), (.int (0 : Int32)), (.ref a2)]) := fun t_ k_ => go74 t_ (st75 t_ k_)
        have F77 : Arv Z h57 a2 k2 .long (2 : Int32) [(.long y0), (.long y1)] (.long (0 : Int64)) := (V2.other W57 (Ne.symm n12))
        have F78 : Arv Z h57 bw kw .long (16 : Int32) ((.long x0) :: own_zl 15) (.long (0 : Int64)) := (Vw.other W57 (Ne.symm naw))
        obtain ⟨T79, h79, L79, X79, e79, N79, Kc79, Vc79, st79⟩ := cpA X75 hx hZ hown (own_w hw 39 rfl) (own_w hw 42 rfl) (own_w hw 40 rfl) (own_w hw 41 rfl) e75 F77 F78 (Or.inl ⟨rfl, rfl⟩) (by decide) (by decide) (by decide) (by decide) (by decide) (us := [(.long y0)]) rfl (Nat.le_of_ble_eq_true rfl) N57 gw (g := (mkF m 185 #[vr a1, vr a2, vi (0 : Int32), vi hs2, vi (31 : Int32), vi t45, vi (1 : Int32)] [(.int (1 : Int32)), (.int (1 : Int32)), (.ref bw), (.int (0 : Int32)), (.ref a2)])) rfl (by rw [hml]; rfl) rfl (hb hby d4_185) (by decide) (W := 0) (by show 2 * 0 + _ ≤ _; exact Nat.le_of_eq rfl) (by decide)
        have V79 : Arv Z h79 bw kw .long (16 : Int32) ((.long x0) :: (.long y0) :: own_zl 14) (.long (0 : Int64)) := Vc79
        have K80 : Keep h0 h79 [a1, bw, bh, bs] := K58.trans Kc79 (allS (Or.inl (List.mem_of_getElem? (i := 1) rfl)) all0)
        have Z80 : n0 ≤ h79.size := Nat.le_trans Z58 Kc79.1
        have go81 : Go p e below s₁ F0 T79 (mkF m 188 #[vr a1, vr a2, vi (0 : Int32), vi hs2, vi (31 : Int32), vi t45, vi (1 : Int32)] []) := fun t_ k_ => go76 t_ (st79 t_ k_)
        have F82 : Fld Z h79 a1 c_0 "hashes" "[I" (.ref bh) := (F60.keep Kc79 (ninS naw nin0))
        have go83 : Go p e below s₁ F0 T79 (mkF m 189 #[vr a1, vr a2, vi (0 : Int32), vi hs2, vi (31 : Int32), vi t45, vi (1 : Int32)] [(.ref a1)]) := by
          intro t_ k_
          refine go81 t_ ?_
          refine o_aloadN X79 hx (hb hby d4_188) rfl rfl ?_
          exact k_
        obtain ⟨T84, X84, e84, st84⟩ := getF X79 hx hZ hown (host := "") (Or.inl (own_w hw 16 rfl)) Via.refl e79 F82 (g := (mkF m 189 #[vr a1, vr a2, vi (0 : Int32), vi hs2, vi (31 : Int32), vi t45, vi (1 : Int32)] [(.ref a1)])) rfl rfl (hb hby d4_189)
        have go85 : Go p e below s₁ F0 T84 (mkF m 192 #[vr a1, vr a2, vi (0 : Int32), vi hs2, vi (31 : Int32), vi t45, vi (1 : Int32)] [(.ref bh)]) := fun t_ k_ => go83 t_ (st84 t_ k_)
        have F86 : Arv Z h79 bh kh .int (16 : Int32) ((.int hs) :: own_zi 15) (.int (0 : Int32)) := (F64.keep Kc79 (ninS (Ne.symm nwh) nin0))
        have go87 : Go p e below s₁ F0 T84 (mkF m 195 #[vr a1, vr a2, vi (0 : Int32), vi hs2, vi (31 : Int32), vi t45, vi (1 : Int32)] [(.int hs2), (.int (1 : Int32)), (.ref bh)]) := by
          intro t_ k_
          refine go85 t_ ?_
          refine o_iload X84 hx (hb hby d4_192) rfl ?_
          refine o_iloadN X84 hx (hb hby d4_194) rfl ?_
          exact k_
        obtain ⟨cl88, Ar88, q88, Sz88, Nn88, Hs88, G88⟩ := id F86
        have hin88 : ¬ ((1 : Int32) < 0 ∨ cl88.slots.size ≤ ((1 : Int32)).toNatClampNeg) := inb_of Sz88 ⟨by decide, by decide⟩
        obtain ⟨T88, h88, X88, e88, W88, st88⟩ := stI X84 hx hZ e84 Ar88 (j := (1 : Int32)) hin88 (g := (mkF m 195 #[vr a1, vr a2, vi (0 : Int32), vi hs2, vi (31 : Int32), vi t45, vi (1 : Int32)] [(.int hs2), (.int (1 : Int32)), (.ref bh)])) rfl rfl (hb hby d4_195)
        have V88 : Arv Z h88 bh kh .int (16 : Int32) ((.int hs) :: (.int hs2) :: own_zi 14) (.int (0 : Int32)) := Arv.set Ar88 q88 Sz88 Nn88 Hs88 G88 rfl W88 1 rfl (Nat.le_of_ble_eq_true rfl)
        have K89 : Keep h0 h88 [a1, bw, bh, bs] := K80.wr W88 (Or.inl (List.mem_of_getElem? (i := 2) rfl))
        have Z89 : n0 ≤ h88.size := Nat.le_trans Z80 (Keep.of_wr W88).1
        have N88 := Fr.snoc X88 N79 gh
        have go90 : Go p e below s₁ F0 T88 (mkF m 196 #[vr a1, vr a2, vi (0 : Int32), vi hs2, vi (31 : Int32), vi t45, vi (1 : Int32)] []) := fun t_ k_ => go87 t_ (st88 t_ k_)
        have F91 : Fld Z h88 a1 c_0 "slots" "[I" (.ref bs) := (((Fsl.other W57 (Or.inr (slot_ne (Or.inl (own_w hw 19 rfl)) (Or.inl (own_w hw 38 rfl)) (by decide) (t := (.array .int)) (t' := .int) (by decide) (by decide)))).keep Kc79 (ninS naw nin0)).other W88 (Or.inl nah))
        have go92 : Go p e below s₁ F0 T88 (mkF m 197 #[vr a1, vr a2, vi (0 : Int32), vi hs2, vi (31 : Int32), vi t45, vi (1 : Int32)] [(.ref a1)]) := by
          intro t_ k_
          refine go90 t_ ?_
          refine o_aloadN X88 hx (hb hby d4_196) rfl rfl ?_
          exact k_
        obtain ⟨T93, X93, e93, st93⟩ := getF X88 hx hZ hown (host := "") (Or.inl (own_w hw 18 rfl)) Via.refl e88 F91 (g := (mkF m 197 #[vr a1, vr a2, vi (0 : Int32), vi hs2, vi (31 : Int32), vi t45, vi (1 : Int32)] [(.ref a1)])) rfl rfl (hb hby d4_197)
        have go94 : Go p e below s₁ F0 T93 (mkF m 200 #[vr a1, vr a2, vi (0 : Int32), vi hs2, vi (31 : Int32), vi t45, vi (1 : Int32)] [(.ref bs)]) := fun t_ k_ => go92 t_ (st93 t_ k_)
        have F95 : Arv Z h88 bs ks .int (32 : Int32) (own_sl sl) (.int (0 : Int32)) := (((Vs.other W57 (Ne.symm nas)).keep Kc79 (ninS (Ne.symm nws) nin0)).other W88 (Ne.symm nhs))
        have go96 : Go p e below s₁ F0 T93 (mkF m 206 #[vr a1, vr a2, vi (0 : Int32), vi hs2, vi (31 : Int32), vi t45, vi (1 : Int32)] [(.int (2 : Int32)), (.int t45), (.ref bs)]) := by
          intro t_ k_
          refine go94 t_ ?_
          refine o_iload X93 hx (hb hby d4_200) rfl ?_
          refine o_iload X93 hx (hb hby d4_202) rfl ?_
          refine o_iconst X93 hx (hb hby d4_204) (v := 1) rfl ?_
          refine o_iaddE X93 hx (hb hby d4_205) (v := 2) rfl ?_
          exact k_
        obtain ⟨cl97, Ar97, q97, Sz97, Nn97, Hs97, G97⟩ := id F95
        have hin97 : ¬ (t45 < 0 ∨ cl97.slots.size ≤ (t45).toNatClampNeg) := inb_of Sz97 (own_in2 h_t45)
        obtain ⟨T97, h97, X97, e97, W97, st97⟩ := stI X93 hx hZ e93 Ar97 (j := t45) hin97 (g := (mkF m 206 #[vr a1, vr a2, vi (0 : Int32), vi hs2, vi (31 : Int32), vi t45, vi (1 : Int32)] [(.int (2 : Int32)), (.int t45), (.ref bs)])) rfl rfl (hb hby d4_206)
        have V97 : Arv Z h97 bs ks .int (32 : Int32) ((own_sl sl).set t45.toNatClampNeg (.int (2 : Int32))) (.int (0 : Int32)) := Arv.set Ar97 q97 Sz97 Nn97 Hs97 G97 rfl W97 t45.toNatClampNeg rfl (own_ls (own_in2 h_t45))
        have K98 : Keep h0 h97 [a1, bw, bh, bs] := K89.wr W97 (Or.inl (List.mem_of_getElem? (i := 3) rfl))
        have Z98 : n0 ≤ h97.size := Nat.le_trans Z89 (Keep.of_wr W97).1
        have N97 := Fr.snoc X97 N88 gs
        have go99 : Go p e below s₁ F0 T97 (mkF m 207 #[vr a1, vr a2, vi (0 : Int32), vi hs2, vi (31 : Int32), vi t45, vi (1 : Int32)] []) := fun t_ k_ => go96 t_ (st97 t_ k_)
        have F100 : Fld Z h97 a1 c_0 "count" "I" (.int (2 : Int32)) := (((Fw57.keep Kc79 (ninS naw nin0)).other W88 (Or.inl nah)).other W97 (Or.inl nas))
        have go101 : Go p e below s₁ F0 T97 (mkF m 209 #[vr a1, vr a2, vi (0 : Int32), vi hs2, vi (31 : Int32), vi t45, vi (1 : Int32)] [(.ref a1), (.int (2 : Int32))]) := by
          intro t_ k_
          refine go99 t_ ?_
          refine o_iconst X97 hx (hb hby d4_207) (v := 2) rfl ?_
          refine o_aloadN X97 hx (hb hby d4_208) rfl rfl ?_
          exact k_
        obtain ⟨T102, X102, e102, st102⟩ := getF X97 hx hZ hown (host := "") (Or.inl (own_w hw 37 rfl)) Via.refl e97 F100 (g := (mkF m 209 #[vr a1, vr a2, vi (0 : Int32), vi hs2, vi (31 : Int32), vi t45, vi (1 : Int32)] [(.ref a1), (.int (2 : Int32))])) rfl rfl (hb hby d4_209)
        have go103 : Go p e below s₁ F0 T102 (mkF m 212 #[vr a1, vr a2, vi (0 : Int32), vi hs2, vi (31 : Int32), vi t45, vi (1 : Int32)] [(.int (2 : Int32)), (.int (2 : Int32))]) := fun t_ k_ => go101 t_ (st102 t_ k_)
        have F104 : Fld Z h97 a1 c_0 "slots" "[I" (.ref bs) := (F91.other W97 (Or.inl nas))
        have go105 : Go p e below s₁ F0 T102 (mkF m 214 #[vr a1, vr a2, vi (0 : Int32), vi hs2, vi (31 : Int32), vi t45, vi (1 : Int32)] [(.ref a1), (.int (4 : Int32))]) := by
          intro t_ k_
          refine go103 t_ ?_
          refine o_imulE X102 hx (hb hby d4_212) (v := 4) rfl ?_
          refine o_aloadN X102 hx (hb hby d4_213) rfl rfl ?_
          exact k_
        obtain ⟨T106, X106, e106, st106⟩ := getF X102 hx hZ hown (host := "") (Or.inl (own_w hw 18 rfl)) Via.refl e102 F104 (g := (mkF m 214 #[vr a1, vr a2, vi (0 : Int32), vi hs2, vi (31 : Int32), vi t45, vi (1 : Int32)] [(.ref a1), (.int (4 : Int32))])) rfl rfl (hb hby d4_214)
        have go107 : Go p e below s₁ F0 T106 (mkF m 217 #[vr a1, vr a2, vi (0 : Int32), vi hs2, vi (31 : Int32), vi t45, vi (1 : Int32)] [(.ref bs), (.int (4 : Int32))]) := fun t_ k_ => go105 t_ (st106 t_ k_)
        obtain ⟨cl108, Ar108, -, Sz108, Nn108, -, -⟩ := id V97
        have go109 : Go p e below s₁ F0 T106 (mkF m 227 #[vr a1, vr a2, vi (0 : Int32), vi hs2, vi (31 : Int32), vi t45, vi (1 : Int32)] [(.int (1 : Int32))]) := by
          intro t_ k_
          refine go107 t_ ?_
          refine o_len X106 hx hZ e106 Ar108 Sz108 Nn108 (hb hby d4_217) ?_
          refine o_icmpYes X106 hx (hb hby d4_218) (pc' := 225) rfl (by decide) (flt (by decide : ¬ ((32 : Int32) < (4 : Int32)))).2.2.2 ?_
          refine o_iload X106 hx (hb hby d4_225) rfl ?_
          exact k_
        obtain ⟨fs, hr, hrun, hended, hW, hsame⟩ := X106.leave (v := some (.int (1 : Int32))) (fun h => by rw [Bd.returns] at h; cases h)
        refine ⟨_, _, pre0 _ (go109 _ ?_), hrun, hended, _, _, rfl, ?_, ⟨_, rfl⟩, hW, hsame.mono (by decide) (by decide)⟩
        · skip
          exact retI X106 hx Bd.returns (hb hby d4_227) hr
        · show Q4_b1 Z a1 a2 bw bh bs kw kh ks k2 hs sl x0 y0 y1 h0 n0 _ T106.heap _
          rw [e106]
          have F110 : Fld Z h97 a1 c_0 "width" "I" (.int (1 : Int32)) := (((F70.keep Kc79 (ninS naw nin0)).other W88 (Or.inl nah)).other W97 (Or.inl nas))
          have F111 : Fld Z h97 a1 c_0 "words" "[J" (.ref bw) := (((F66.keep Kc79 (ninS naw nin0)).other W88 (Or.inl nah)).other W97 (Or.inl nas))
          have F112 : Arv Z h97 bw kw .long (16 : Int32) ((.long x0) :: (.long y0) :: own_zl 14) (.long (0 : Int64)) := ((V79.other W88 nwh).other W97 nws)
          exact ⟨(1 : Int32), y0, rfl, N97, K98, F110, F111, F112, (Or.inr ⟨rfl, (own_neW_1 hc92_44), rfl⟩)⟩
      · skip
        have go113 : Go p e below s₁ F0 T42 (mkF m 97 #[vr a1, vr a2, vi (0 : Int32), vi hs2, vi (31 : Int32), vi t, vi (0 : Int32)] [(.int (0 : Int32))]) := by
          intro t_ k_
          refine go43 t_ ?_
          refine o_ifNo X42 hx (hb hby d4_92) ((if0 _ _).trans (feq hc92_44).1) ?_
          refine o_iload X42 hx (hb hby d4_95) rfl ?_
          exact k_
        obtain ⟨fs, hr, hrun, hended, hW, hsame⟩ := X42.leave (v := some (.int (0 : Int32))) (fun h => by rw [Bd.returns] at h; cases h)
        refine ⟨_, _, pre0 _ (go113 _ ?_), hrun, hended, _, _, rfl, ?_, ⟨_, rfl⟩, hW, hsame.mono (by decide) (by decide)⟩
        · skip
          exact retI X42 hx Bd.returns (hb hby d4_97) hr
        · show Q4_b1 Z a1 a2 bw bh bs kw kh ks k2 hs sl x0 y0 y1 h0 n0 _ T42.heap _
          rw [eh42]
          exact ⟨(0 : Int32), (0 : Int64), rfl, N42, K0, Fwi, Fwo, Vw, (Or.inl ⟨rfl, own_eqT_1 hc92_44⟩)⟩
    · skip
      have go115 : Go p e below s₁ F0 T35 (mkF m 52 #[vr a1, vr a2, vi (0 : Int32), vi hs2, vi (31 : Int32), vi ((t + (1 : Int32)) &&& (31 : Int32)), vi (0 : Int32)] []) := by
        intro t_ k_
        refine go39 t_ ?_
        refine o_icmpYes X35 hx (hb hby d4_81) (pc' := 98) rfl (by decide) (feq hc81_40).2 ?_
        refine o_iload X35 hx (hb hby d4_98) rfl ?_
        refine o_iconst X35 hx (hb hby d4_100) (v := 1) rfl ?_
        refine o_iadd X35 hx (hb hby d4_101) ?_
        refine o_iload X35 hx (hb hby d4_102) rfl ?_
        refine o_iand X35 hx (hb hby d4_104) ?_
        refine o_istore X35 hx (hb hby d4_105) (L' := #[vr a1, vr a2, vi (0 : Int32), vi hs2, vi (31 : Int32), vi ((t + (1 : Int32)) &&& (31 : Int32)), vi (0 : Int32)]) rfl ?_
        refine o_goto X35 hx (hb hby d4_107) (pc' := 52) rfl (by decide) ?_
        exact k_
      obtain ⟨t114, h_t114⟩ : ∃ z : Int32, z = ((t + (1 : Int32)) &&& (31 : Int32)) := ⟨_, rfl⟩
      have go116 : Go p e below s₁ F0 T35 (mkF m 52 #[vr a1, vr a2, vi (0 : Int32), vi hs2, vi (31 : Int32), vi t114, vi (0 : Int32)] []) := by rw [h_t114]; exact go115
      have go117 : Go p e below s₁ F0 T35 (mkF m 53 #[vr a1, vr a2, vi (0 : Int32), vi hs2, vi (31 : Int32), vi t114, vi (0 : Int32)] [(.ref a1)]) := by
        intro t_ k_
        refine go116 t_ ?_
        refine o_aloadN X35 hx (hb hby d4_52) rfl rfl ?_
        exact k_
      obtain ⟨T118, X118, e118, st118⟩ := getF X35 hx hZ hown (host := "") (Or.inl (own_w hw 18 rfl)) Via.refl e35 Fsl (g := (mkF m 53 #[vr a1, vr a2, vi (0 : Int32), vi hs2, vi (31 : Int32), vi t114, vi (0 : Int32)] [(.ref a1)])) rfl rfl (hb hby d4_53)
      have go119 : Go p e below s₁ F0 T118 (mkF m 56 #[vr a1, vr a2, vi (0 : Int32), vi hs2, vi (31 : Int32), vi t114, vi (0 : Int32)] [(.ref bs)]) := fun t_ k_ => go117 t_ (st118 t_ k_)
      have go120 : Go p e below s₁ F0 T118 (mkF m 58 #[vr a1, vr a2, vi (0 : Int32), vi hs2, vi (31 : Int32), vi t114, vi (0 : Int32)] [(.int t114), (.ref bs)]) := by
        intro t_ k_
        refine go119 t_ ?_
        refine o_iload X118 hx (hb hby d4_56) rfl ?_
        exact k_
      obtain ⟨cl121, Ar121, -, Sz121, Nn121, Hs121, -⟩ := id Vs
      have hin121 : ¬ (t114 < 0 ∨ cl121.slots.size ≤ (t114).toNatClampNeg) := inb_of Sz121 (own_in2 h_t114)
      have hat121 : cl121.slots[(t114).toNatClampNeg]? = some (.int (0 : Int32)) := Hs121.at hin121 (own_miss (own_in2 h_t114) (own_in hsl) (own_next (own_in hsl) hb52_23 h_t114))
      have go122 : Go p e below s₁ F0 T118 (mkF m 112 #[vr a1, vr a2, vi (0 : Int32), vi hs2, vi (31 : Int32), vi t114, vi (0 : Int32)] [(.ref a1), (.ref a1)]) := by
        intro t_ k_
        refine go120 t_ ?_
        refine o_iaload X118 hx hZ e118 Ar121 hin121 hat121 (hb hby d4_58) ?_
        refine o_ifYes X118 hx (hb hby d4_59) (pc' := 110) rfl (by decide) ((if0 _ _).trans (teq (by decide : (0 : Int32) = (0 : Int32))).1) ?_
        refine o_aloadN X118 hx (hb hby d4_110) rfl rfl ?_
        refine o_dup X118 hx (hb hby d4_111) rfl ?_
        exact k_
      obtain ⟨T123, X123, e123, st123⟩ := getF X118 hx hZ hown (host := "") (Or.inl (own_w hw 37 rfl)) Via.refl e118 Fco (g := (mkF m 112 #[vr a1, vr a2, vi (0 : Int32), vi hs2, vi (31 : Int32), vi t114, vi (0 : Int32)] [(.ref a1), (.ref a1)])) rfl rfl (hb hby d4_112)
      have go124 : Go p e below s₁ F0 T123 (mkF m 115 #[vr a1, vr a2, vi (0 : Int32), vi hs2, vi (31 : Int32), vi t114, vi (0 : Int32)] [(.int (1 : Int32)), (.ref a1)]) := fun t_ k_ => go122 t_ (st123 t_ k_)
      have go125 : Go p e below s₁ F0 T123 (mkF m 118 #[vr a1, vr a2, vi (0 : Int32), vi hs2, vi (31 : Int32), vi t114, vi (0 : Int32)] [(.int (2 : Int32)), (.ref a1), (.int (1 : Int32))]) := by
        intro t_ k_
        refine go124 t_ ?_
        refine o_dupX1 X123 hx (hb hby d4_115) rfl rfl ?_
        refine o_iconst X123 hx (hb hby d4_116) (v := 1) rfl ?_
        refine o_iaddE X123 hx (hb hby d4_117) (v := 2) rfl ?_
        exact k_
      obtain ⟨T126, h126, X126, e126, W126, st126⟩ := putF X123 hx hZ hown (host := "") (Or.inl (own_w hw 37 rfl)) Via.refl e123 Fco E0 (Or.inl (own_w hw 38 rfl)) (own_w hw 3 rfl) (ty := .int) (by decide) rfl rfl (g := (mkF m 118 #[vr a1, vr a2, vi (0 : Int32), vi hs2, vi (31 : Int32), vi t114, vi (0 : Int32)] [(.int (2 : Int32)), (.ref a1), (.int (1 : Int32))])) rfl rfl (hb hby d4_118)
      have Fw126 : Fld Z h126 a1 c_0 "count" "I" (.int (2 : Int32)) := Fld.same W126 Fco
      have K127 : Keep h0 h126 [a1, bw, bh, bs] := K0.wr W126 (Or.inl (List.mem_of_getElem? (i := 0) rfl))
      have Z127 : n0 ≤ h126.size := Nat.le_trans Z0 (Keep.of_wr W126).1
      have N126 := Fr.snoc X126 N19 g1
      have go128 : Go p e below s₁ F0 T126 (mkF m 121 #[vr a1, vr a2, vi (0 : Int32), vi hs2, vi (31 : Int32), vi t114, vi (0 : Int32)] [(.int (1 : Int32))]) := fun t_ k_ => go125 t_ (st126 t_ k_)
      have F129 : Fld Z h126 a1 c_0 "hashes" "[I" (.ref bh) := (Fha.other W126 (Or.inr (slot_ne (Or.inl (own_w hw 17 rfl)) (Or.inl (own_w hw 38 rfl)) (by decide) (t := (.array .int)) (t' := .int) (by decide) (by decide))))
      have go130 : Go p e below s₁ F0 T126 (mkF m 126 #[vr a1, vr a2, vi (0 : Int32), vi hs2, vi (31 : Int32), vi t114, vi (1 : Int32)] [(.ref a1), (.int (1 : Int32))]) := by
        intro t_ k_
        refine go128 t_ ?_
        refine o_istore X126 hx (hb hby d4_121) (L' := #[vr a1, vr a2, vi (0 : Int32), vi hs2, vi (31 : Int32), vi t114, vi (1 : Int32)]) rfl ?_
        refine o_iload X126 hx (hb hby d4_123) rfl ?_
        refine o_aloadN X126 hx (hb hby d4_125) rfl rfl ?_
        exact k_
      obtain ⟨T131, X131, e131, st131⟩ := getF X126 hx hZ hown (host := "") (Or.inl (own_w hw 16 rfl)) Via.refl e126 F129 (g := (mkF m 126 #[vr a1, vr a2, vi (0 : Int32), vi hs2, vi (31 : Int32), vi t114, vi (1 : Int32)] [(.ref a1), (.int (1 : Int32))])) rfl rfl (hb hby d4_126)
      have go132 : Go p e below s₁ F0 T131 (mkF m 129 #[vr a1, vr a2, vi (0 : Int32), vi hs2, vi (31 : Int32), vi t114, vi (1 : Int32)] [(.ref bh), (.int (1 : Int32))]) := fun t_ k_ => go130 t_ (st131 t_ k_)
      have F133 : Arv Z h126 bh kh .int (16 : Int32) ((.int hs) :: own_zi 15) (.int (0 : Int32)) := (Vh.other W126 (Ne.symm nah))
      obtain ⟨cl134, Ar134, -, Sz134, Nn134, -, -⟩ := id F133
      have F135 : Fld Z h126 a1 c_0 "words" "[J" (.ref bw) := (Fwo.other W126 (Or.inr (slot_ne (Or.inl (own_w hw 14 rfl)) (Or.inl (own_w hw 38 rfl)) (by decide) (t := (.array .long)) (t' := .int) (by decide) (by decide))))
      have go136 : Go p e below s₁ F0 T131 (mkF m 171 #[vr a1, vr a2, vi (0 : Int32), vi hs2, vi (31 : Int32), vi t114, vi (1 : Int32)] [(.ref a1), (.int (0 : Int32)), (.ref a2)]) := by
        intro t_ k_
        refine go132 t_ ?_
        refine o_len X131 hx hZ e131 Ar134 Sz134 Nn134 (hb hby d4_129) ?_
        refine o_icmpYes X131 hx (hb hby d4_130) (pc' := 168) rfl (by decide) (feq (by decide : ¬ ((1 : Int32) = (16 : Int32)))).2 ?_
        refine o_aloadN X131 hx (hb hby d4_168) rfl rfl ?_
        refine o_iloadN X131 hx (hb hby d4_169) rfl ?_
        refine o_aloadN X131 hx (hb hby d4_170) rfl rfl ?_
        exact k_
      obtain ⟨T137, X137, e137, st137⟩ := getF X131 hx hZ hown (host := "") (Or.inl (own_w hw 13 rfl)) Via.refl e131 F135 (g := (mkF m 171 #[vr a1, vr a2, vi (0 : Int32), vi hs2, vi (31 : Int32), vi t114, vi (1 : Int32)] [(.ref a1), (.int (0 : Int32)), (.ref a2)])) rfl rfl (hb hby d4_171)
      have go138 : Go p e below s₁ F0 T137 (mkF m 174 #[vr a1, vr a2, vi (0 : Int32), vi hs2, vi (31 : Int32), vi t114, vi (1 : Int32)] [(.ref bw), (.int (0 : Int32)), (.ref a2)]) := fun t_ k_ => go136 t_ (st137 t_ k_)
      have F139 : Fld Z h126 a1 c_0 "width" "I" (.int (1 : Int32)) := (Fwi.other W126 (Or.inr (slot_ne (Or.inr (own_w hw 12 rfl)) (Or.inl (own_w hw 38 rfl)) (by decide) (t := .int) (t' := .int) (by decide) (by decide))))
      have go140 : Go p e below s₁ F0 T137 (mkF m 177 #[vr a1, vr a2, vi (0 : Int32), vi hs2, vi (31 : Int32), vi t114, vi (1 : Int32)] [(.ref a1), (.int (1 : Int32)), (.ref bw), (.int (0 : Int32)), (.ref a2)]) := by
        intro t_ k_
        refine go138 t_ ?_
        refine o_iload X137 hx (hb hby d4_174) rfl ?_
        refine o_aloadN X137 hx (hb hby d4_176) rfl rfl ?_
        exact k_
      obtain ⟨T141, X141, e141, st141⟩ := getF X137 hx hZ hown (host := "") (Or.inl (own_w hw 11 rfl)) Via.refl e137 F139 (g := (mkF m 177 #[vr a1, vr a2, vi (0 : Int32), vi hs2, vi (31 : Int32), vi t114, vi (1 : Int32)] [(.ref a1), (.int (1 : Int32)), (.ref bw), (.int (0 : Int32)), (.ref a2)])) rfl rfl (hb hby d4_177)
      have go142 : Go p e below s₁ F0 T141 (mkF m 180 #[vr a1, vr a2, vi (0 : Int32), vi hs2, vi (31 : Int32), vi t114, vi (1 : Int32)] [(.int (1 : Int32)), (.int (1 : Int32)), (.ref bw), (.int (0 : Int32)), (.ref a2)]) := fun t_ k_ => go140 t_ (st141 t_ k_)
      have go143 : Go p e below s₁ F0 T141 (mkF m 182 #[vr a1, vr a2, vi (0 : Int32), vi hs2, vi (31 : Int32), vi t114, vi (1 : Int32)] [(.ref a1), (.int (1 : Int32)), (.ref bw), (.int (0 : Int32)), (.ref a2)]) := by
        intro t_ k_
        refine go142 t_ ?_
        refine o_imulE X141 hx (hb hby d4_180) (v := 1) rfl ?_
        refine o_aloadN X141 hx (hb hby d4_181) rfl rfl ?_
        exact k_
      obtain ⟨T144, X144, e144, st144⟩ := getF X141 hx hZ hown (host := "") (Or.inl (own_w hw 11 rfl)) Via.refl e141 F139 (g := (mkF m 182 #[vr a1, vr a2, vi (0 : Int32), vi hs2, vi (31 : Int32), vi t114, vi (1 : Int32)] [(.ref a1), (.int (1 : Int32)), (.ref bw), (.int (0 : Int32)), (.ref a2)])) rfl rfl (hb hby d4_182)
      have go145 : Go p e below s₁ F0 T144 (mkF m 185 #[vr a1, vr a2, vi (0 : Int32), vi hs2, vi (31 : Int32), vi t114, vi (1 : Int32)] [(.int (1 : Int32)), (.int (1 : Int32)), (.ref bw), (.int (0 : Int32)), (.ref a2)]) := fun t_ k_ => go143 t_ (st144 t_ k_)
      have F146 : Arv Z h126 a2 k2 .long (2 : Int32) [(.long y0), (.long y1)] (.long (0 : Int64)) := (V2.other W126 (Ne.symm n12))
      have F147 : Arv Z h126 bw kw .long (16 : Int32) ((.long x0) :: own_zl 15) (.long (0 : Int64)) := (Vw.other W126 (Ne.symm naw))
      obtain ⟨T148, h148, L148, X148, e148, N148, Kc148, Vc148, st148⟩ := cpA X144 hx hZ hown (own_w hw 39 rfl) (own_w hw 42 rfl) (own_w hw 40 rfl) (own_w hw 41 rfl) e144 F146 F147 (Or.inl ⟨rfl, rfl⟩) (by decide) (by decide) (by decide) (by decide) (by decide) (us := [(.long y0)]) rfl (Nat.le_of_ble_eq_true rfl) N126 gw (g := (mkF m 185 #[vr a1, vr a2, vi (0 : Int32), vi hs2, vi (31 : Int32), vi t114, vi (1 : Int32)] [(.int (1 : Int32)), (.int (1 : Int32)), (.ref bw), (.int (0 : Int32)), (.ref a2)])) rfl (by rw [hml]; rfl) rfl (hb hby d4_185) (by decide) (W := 0) (by show 2 * 0 + _ ≤ _; exact Nat.le_of_eq rfl) (by decide)
      have V148 : Arv Z h148 bw kw .long (16 : Int32) ((.long x0) :: (.long y0) :: own_zl 14) (.long (0 : Int64)) := Vc148
      have K149 : Keep h0 h148 [a1, bw, bh, bs] := K127.trans Kc148 (allS (Or.inl (List.mem_of_getElem? (i := 1) rfl)) all0)
      have Z149 : n0 ≤ h148.size := Nat.le_trans Z127 Kc148.1
      have go150 : Go p e below s₁ F0 T148 (mkF m 188 #[vr a1, vr a2, vi (0 : Int32), vi hs2, vi (31 : Int32), vi t114, vi (1 : Int32)] []) := fun t_ k_ => go145 t_ (st148 t_ k_)
      have F151 : Fld Z h148 a1 c_0 "hashes" "[I" (.ref bh) := (F129.keep Kc148 (ninS naw nin0))
      have go152 : Go p e below s₁ F0 T148 (mkF m 189 #[vr a1, vr a2, vi (0 : Int32), vi hs2, vi (31 : Int32), vi t114, vi (1 : Int32)] [(.ref a1)]) := by
        intro t_ k_
        refine go150 t_ ?_
        refine o_aloadN X148 hx (hb hby d4_188) rfl rfl ?_
        exact k_
      obtain ⟨T153, X153, e153, st153⟩ := getF X148 hx hZ hown (host := "") (Or.inl (own_w hw 16 rfl)) Via.refl e148 F151 (g := (mkF m 189 #[vr a1, vr a2, vi (0 : Int32), vi hs2, vi (31 : Int32), vi t114, vi (1 : Int32)] [(.ref a1)])) rfl rfl (hb hby d4_189)
      have go154 : Go p e below s₁ F0 T153 (mkF m 192 #[vr a1, vr a2, vi (0 : Int32), vi hs2, vi (31 : Int32), vi t114, vi (1 : Int32)] [(.ref bh)]) := fun t_ k_ => go152 t_ (st153 t_ k_)
      have F155 : Arv Z h148 bh kh .int (16 : Int32) ((.int hs) :: own_zi 15) (.int (0 : Int32)) := (F133.keep Kc148 (ninS (Ne.symm nwh) nin0))
      have go156 : Go p e below s₁ F0 T153 (mkF m 195 #[vr a1, vr a2, vi (0 : Int32), vi hs2, vi (31 : Int32), vi t114, vi (1 : Int32)] [(.int hs2), (.int (1 : Int32)), (.ref bh)]) := by
        intro t_ k_
        refine go154 t_ ?_
        refine o_iload X153 hx (hb hby d4_192) rfl ?_
        refine o_iloadN X153 hx (hb hby d4_194) rfl ?_
        exact k_
      obtain ⟨cl157, Ar157, q157, Sz157, Nn157, Hs157, G157⟩ := id F155
      have hin157 : ¬ ((1 : Int32) < 0 ∨ cl157.slots.size ≤ ((1 : Int32)).toNatClampNeg) := inb_of Sz157 ⟨by decide, by decide⟩
      obtain ⟨T157, h157, X157, e157, W157, st157⟩ := stI X153 hx hZ e153 Ar157 (j := (1 : Int32)) hin157 (g := (mkF m 195 #[vr a1, vr a2, vi (0 : Int32), vi hs2, vi (31 : Int32), vi t114, vi (1 : Int32)] [(.int hs2), (.int (1 : Int32)), (.ref bh)])) rfl rfl (hb hby d4_195)
      have V157 : Arv Z h157 bh kh .int (16 : Int32) ((.int hs) :: (.int hs2) :: own_zi 14) (.int (0 : Int32)) := Arv.set Ar157 q157 Sz157 Nn157 Hs157 G157 rfl W157 1 rfl (Nat.le_of_ble_eq_true rfl)
      have K158 : Keep h0 h157 [a1, bw, bh, bs] := K149.wr W157 (Or.inl (List.mem_of_getElem? (i := 2) rfl))
      have Z158 : n0 ≤ h157.size := Nat.le_trans Z149 (Keep.of_wr W157).1
      have N157 := Fr.snoc X157 N148 gh
      have go159 : Go p e below s₁ F0 T157 (mkF m 196 #[vr a1, vr a2, vi (0 : Int32), vi hs2, vi (31 : Int32), vi t114, vi (1 : Int32)] []) := fun t_ k_ => go156 t_ (st157 t_ k_)
      have F160 : Fld Z h157 a1 c_0 "slots" "[I" (.ref bs) := (((Fsl.other W126 (Or.inr (slot_ne (Or.inl (own_w hw 19 rfl)) (Or.inl (own_w hw 38 rfl)) (by decide) (t := (.array .int)) (t' := .int) (by decide) (by decide)))).keep Kc148 (ninS naw nin0)).other W157 (Or.inl nah))
      have go161 : Go p e below s₁ F0 T157 (mkF m 197 #[vr a1, vr a2, vi (0 : Int32), vi hs2, vi (31 : Int32), vi t114, vi (1 : Int32)] [(.ref a1)]) := by
        intro t_ k_
        refine go159 t_ ?_
        refine o_aloadN X157 hx (hb hby d4_196) rfl rfl ?_
        exact k_
      obtain ⟨T162, X162, e162, st162⟩ := getF X157 hx hZ hown (host := "") (Or.inl (own_w hw 18 rfl)) Via.refl e157 F160 (g := (mkF m 197 #[vr a1, vr a2, vi (0 : Int32), vi hs2, vi (31 : Int32), vi t114, vi (1 : Int32)] [(.ref a1)])) rfl rfl (hb hby d4_197)
      have go163 : Go p e below s₁ F0 T162 (mkF m 200 #[vr a1, vr a2, vi (0 : Int32), vi hs2, vi (31 : Int32), vi t114, vi (1 : Int32)] [(.ref bs)]) := fun t_ k_ => go161 t_ (st162 t_ k_)
      have F164 : Arv Z h157 bs ks .int (32 : Int32) (own_sl sl) (.int (0 : Int32)) := (((Vs.other W126 (Ne.symm nas)).keep Kc148 (ninS (Ne.symm nws) nin0)).other W157 (Ne.symm nhs))
      have go165 : Go p e below s₁ F0 T162 (mkF m 206 #[vr a1, vr a2, vi (0 : Int32), vi hs2, vi (31 : Int32), vi t114, vi (1 : Int32)] [(.int (2 : Int32)), (.int t114), (.ref bs)]) := by
        intro t_ k_
        refine go163 t_ ?_
        refine o_iload X162 hx (hb hby d4_200) rfl ?_
        refine o_iload X162 hx (hb hby d4_202) rfl ?_
        refine o_iconst X162 hx (hb hby d4_204) (v := 1) rfl ?_
        refine o_iaddE X162 hx (hb hby d4_205) (v := 2) rfl ?_
        exact k_
      obtain ⟨cl166, Ar166, q166, Sz166, Nn166, Hs166, G166⟩ := id F164
      have hin166 : ¬ (t114 < 0 ∨ cl166.slots.size ≤ (t114).toNatClampNeg) := inb_of Sz166 (own_in2 h_t114)
      obtain ⟨T166, h166, X166, e166, W166, st166⟩ := stI X162 hx hZ e162 Ar166 (j := t114) hin166 (g := (mkF m 206 #[vr a1, vr a2, vi (0 : Int32), vi hs2, vi (31 : Int32), vi t114, vi (1 : Int32)] [(.int (2 : Int32)), (.int t114), (.ref bs)])) rfl rfl (hb hby d4_206)
      have V166 : Arv Z h166 bs ks .int (32 : Int32) ((own_sl sl).set t114.toNatClampNeg (.int (2 : Int32))) (.int (0 : Int32)) := Arv.set Ar166 q166 Sz166 Nn166 Hs166 G166 rfl W166 t114.toNatClampNeg rfl (own_ls (own_in2 h_t114))
      have K167 : Keep h0 h166 [a1, bw, bh, bs] := K158.wr W166 (Or.inl (List.mem_of_getElem? (i := 3) rfl))
      have Z167 : n0 ≤ h166.size := Nat.le_trans Z158 (Keep.of_wr W166).1
      have N166 := Fr.snoc X166 N157 gs
      have go168 : Go p e below s₁ F0 T166 (mkF m 207 #[vr a1, vr a2, vi (0 : Int32), vi hs2, vi (31 : Int32), vi t114, vi (1 : Int32)] []) := fun t_ k_ => go165 t_ (st166 t_ k_)
      have F169 : Fld Z h166 a1 c_0 "count" "I" (.int (2 : Int32)) := (((Fw126.keep Kc148 (ninS naw nin0)).other W157 (Or.inl nah)).other W166 (Or.inl nas))
      have go170 : Go p e below s₁ F0 T166 (mkF m 209 #[vr a1, vr a2, vi (0 : Int32), vi hs2, vi (31 : Int32), vi t114, vi (1 : Int32)] [(.ref a1), (.int (2 : Int32))]) := by
        intro t_ k_
        refine go168 t_ ?_
        refine o_iconst X166 hx (hb hby d4_207) (v := 2) rfl ?_
        refine o_aloadN X166 hx (hb hby d4_208) rfl rfl ?_
        exact k_
      obtain ⟨T171, X171, e171, st171⟩ := getF X166 hx hZ hown (host := "") (Or.inl (own_w hw 37 rfl)) Via.refl e166 F169 (g := (mkF m 209 #[vr a1, vr a2, vi (0 : Int32), vi hs2, vi (31 : Int32), vi t114, vi (1 : Int32)] [(.ref a1), (.int (2 : Int32))])) rfl rfl (hb hby d4_209)
      have go172 : Go p e below s₁ F0 T171 (mkF m 212 #[vr a1, vr a2, vi (0 : Int32), vi hs2, vi (31 : Int32), vi t114, vi (1 : Int32)] [(.int (2 : Int32)), (.int (2 : Int32))]) := fun t_ k_ => go170 t_ (st171 t_ k_)
      have F173 : Fld Z h166 a1 c_0 "slots" "[I" (.ref bs) := (F160.other W166 (Or.inl nas))
      have go174 : Go p e below s₁ F0 T171 (mkF m 214 #[vr a1, vr a2, vi (0 : Int32), vi hs2, vi (31 : Int32), vi t114, vi (1 : Int32)] [(.ref a1), (.int (4 : Int32))]) := by
        intro t_ k_
        refine go172 t_ ?_
        refine o_imulE X171 hx (hb hby d4_212) (v := 4) rfl ?_
        refine o_aloadN X171 hx (hb hby d4_213) rfl rfl ?_
        exact k_
      obtain ⟨T175, X175, e175, st175⟩ := getF X171 hx hZ hown (host := "") (Or.inl (own_w hw 18 rfl)) Via.refl e171 F173 (g := (mkF m 214 #[vr a1, vr a2, vi (0 : Int32), vi hs2, vi (31 : Int32), vi t114, vi (1 : Int32)] [(.ref a1), (.int (4 : Int32))])) rfl rfl (hb hby d4_214)
      have go176 : Go p e below s₁ F0 T175 (mkF m 217 #[vr a1, vr a2, vi (0 : Int32), vi hs2, vi (31 : Int32), vi t114, vi (1 : Int32)] [(.ref bs), (.int (4 : Int32))]) := fun t_ k_ => go174 t_ (st175 t_ k_)
      obtain ⟨cl177, Ar177, -, Sz177, Nn177, -, -⟩ := id V166
      have go178 : Go p e below s₁ F0 T175 (mkF m 227 #[vr a1, vr a2, vi (0 : Int32), vi hs2, vi (31 : Int32), vi t114, vi (1 : Int32)] [(.int (1 : Int32))]) := by
        intro t_ k_
        refine go176 t_ ?_
        refine o_len X175 hx hZ e175 Ar177 Sz177 Nn177 (hb hby d4_217) ?_
        refine o_icmpYes X175 hx (hb hby d4_218) (pc' := 225) rfl (by decide) (flt (by decide : ¬ ((32 : Int32) < (4 : Int32)))).2.2.2 ?_
        refine o_iload X175 hx (hb hby d4_225) rfl ?_
        exact k_
      obtain ⟨fs, hr, hrun, hended, hW, hsame⟩ := X175.leave (v := some (.int (1 : Int32))) (fun h => by rw [Bd.returns] at h; cases h)
      refine ⟨_, _, pre0 _ (go178 _ ?_), hrun, hended, _, _, rfl, ?_, ⟨_, rfl⟩, hW, hsame.mono (by decide) (by decide)⟩
      · skip
        exact retI X175 hx Bd.returns (hb hby d4_227) hr
      · show Q4_b1 Z a1 a2 bw bh bs kw kh ks k2 hs sl x0 y0 y1 h0 n0 _ T175.heap _
        rw [e175]
        have F179 : Fld Z h166 a1 c_0 "width" "I" (.int (1 : Int32)) := (((F139.keep Kc148 (ninS naw nin0)).other W157 (Or.inl nah)).other W166 (Or.inl nas))
        have F180 : Fld Z h166 a1 c_0 "words" "[J" (.ref bw) := (((F135.keep Kc148 (ninS naw nin0)).other W157 (Or.inl nah)).other W166 (Or.inl nas))
        have F181 : Arv Z h166 bw kw .long (16 : Int32) ((.long x0) :: (.long y0) :: own_zl 14) (.long (0 : Int64)) := ((V148.other W157 nwh).other W166 nws)
        exact ⟨(1 : Int32), y0, rfl, N166, K167, F179, F180, F181, (Or.inr ⟨rfl, (own_neH_1 hhs h_hs2 hc81_40), rfl⟩)⟩
  · skip
    have go182 : Go p e below s₁ F0 T19 (mkF m 53 #[vr a1, vr a2, vi (0 : Int32), vi hs2, vi (31 : Int32), vi t, .unset] [(.ref a1)]) := by
      intro t_ k_
      refine go22 t_ ?_
      refine o_aloadN X19 hx (hb hby d4_52) rfl rfl ?_
      exact k_
    obtain ⟨T183, X183, e183, st183⟩ := getF X19 hx hZ hown (host := "") (Or.inl (own_w hw 18 rfl)) Via.refl eh19 Fsl (g := (mkF m 53 #[vr a1, vr a2, vi (0 : Int32), vi hs2, vi (31 : Int32), vi t, .unset] [(.ref a1)])) rfl rfl (hb hby d4_53)
    have go184 : Go p e below s₁ F0 T183 (mkF m 56 #[vr a1, vr a2, vi (0 : Int32), vi hs2, vi (31 : Int32), vi t, .unset] [(.ref bs)]) := fun t_ k_ => go182 t_ (st183 t_ k_)
    have go185 : Go p e below s₁ F0 T183 (mkF m 58 #[vr a1, vr a2, vi (0 : Int32), vi hs2, vi (31 : Int32), vi t, .unset] [(.int t), (.ref bs)]) := by
      intro t_ k_
      refine go184 t_ ?_
      refine o_iload X183 hx (hb hby d4_56) rfl ?_
      exact k_
    obtain ⟨cl186, Ar186, -, Sz186, Nn186, Hs186, -⟩ := id Vs
    have hin186 : ¬ (t < 0 ∨ cl186.slots.size ≤ (t).toNatClampNeg) := inb_of Sz186 (own_in h_t)
    have hat186 : cl186.slots[(t).toNatClampNeg]? = some (.int (0 : Int32)) := Hs186.at hin186 (own_miss (own_in h_t) (own_in hsl) hb52_23)
    have go187 : Go p e below s₁ F0 T183 (mkF m 112 #[vr a1, vr a2, vi (0 : Int32), vi hs2, vi (31 : Int32), vi t, .unset] [(.ref a1), (.ref a1)]) := by
      intro t_ k_
      refine go185 t_ ?_
      refine o_iaload X183 hx hZ e183 Ar186 hin186 hat186 (hb hby d4_58) ?_
      refine o_ifYes X183 hx (hb hby d4_59) (pc' := 110) rfl (by decide) ((if0 _ _).trans (teq (by decide : (0 : Int32) = (0 : Int32))).1) ?_
      refine o_aloadN X183 hx (hb hby d4_110) rfl rfl ?_
      refine o_dup X183 hx (hb hby d4_111) rfl ?_
      exact k_
    obtain ⟨T188, X188, e188, st188⟩ := getF X183 hx hZ hown (host := "") (Or.inl (own_w hw 37 rfl)) Via.refl e183 Fco (g := (mkF m 112 #[vr a1, vr a2, vi (0 : Int32), vi hs2, vi (31 : Int32), vi t, .unset] [(.ref a1), (.ref a1)])) rfl rfl (hb hby d4_112)
    have go189 : Go p e below s₁ F0 T188 (mkF m 115 #[vr a1, vr a2, vi (0 : Int32), vi hs2, vi (31 : Int32), vi t, .unset] [(.int (1 : Int32)), (.ref a1)]) := fun t_ k_ => go187 t_ (st188 t_ k_)
    have go190 : Go p e below s₁ F0 T188 (mkF m 118 #[vr a1, vr a2, vi (0 : Int32), vi hs2, vi (31 : Int32), vi t, .unset] [(.int (2 : Int32)), (.ref a1), (.int (1 : Int32))]) := by
      intro t_ k_
      refine go189 t_ ?_
      refine o_dupX1 X188 hx (hb hby d4_115) rfl rfl ?_
      refine o_iconst X188 hx (hb hby d4_116) (v := 1) rfl ?_
      refine o_iaddE X188 hx (hb hby d4_117) (v := 2) rfl ?_
      exact k_
    obtain ⟨T191, h191, X191, e191, W191, st191⟩ := putF X188 hx hZ hown (host := "") (Or.inl (own_w hw 37 rfl)) Via.refl e188 Fco E0 (Or.inl (own_w hw 38 rfl)) (own_w hw 3 rfl) (ty := .int) (by decide) rfl rfl (g := (mkF m 118 #[vr a1, vr a2, vi (0 : Int32), vi hs2, vi (31 : Int32), vi t, .unset] [(.int (2 : Int32)), (.ref a1), (.int (1 : Int32))])) rfl rfl (hb hby d4_118)
    have Fw191 : Fld Z h191 a1 c_0 "count" "I" (.int (2 : Int32)) := Fld.same W191 Fco
    have K192 : Keep h0 h191 [a1, bw, bh, bs] := K0.wr W191 (Or.inl (List.mem_of_getElem? (i := 0) rfl))
    have Z192 : n0 ≤ h191.size := Nat.le_trans Z0 (Keep.of_wr W191).1
    have N191 := Fr.snoc X191 N19 g1
    have go193 : Go p e below s₁ F0 T191 (mkF m 121 #[vr a1, vr a2, vi (0 : Int32), vi hs2, vi (31 : Int32), vi t, .unset] [(.int (1 : Int32))]) := fun t_ k_ => go190 t_ (st191 t_ k_)
    have F194 : Fld Z h191 a1 c_0 "hashes" "[I" (.ref bh) := (Fha.other W191 (Or.inr (slot_ne (Or.inl (own_w hw 17 rfl)) (Or.inl (own_w hw 38 rfl)) (by decide) (t := (.array .int)) (t' := .int) (by decide) (by decide))))
    have go195 : Go p e below s₁ F0 T191 (mkF m 126 #[vr a1, vr a2, vi (0 : Int32), vi hs2, vi (31 : Int32), vi t, vi (1 : Int32)] [(.ref a1), (.int (1 : Int32))]) := by
      intro t_ k_
      refine go193 t_ ?_
      refine o_istore X191 hx (hb hby d4_121) (L' := #[vr a1, vr a2, vi (0 : Int32), vi hs2, vi (31 : Int32), vi t, vi (1 : Int32)]) rfl ?_
      refine o_iload X191 hx (hb hby d4_123) rfl ?_
      refine o_aloadN X191 hx (hb hby d4_125) rfl rfl ?_
      exact k_
    obtain ⟨T196, X196, e196, st196⟩ := getF X191 hx hZ hown (host := "") (Or.inl (own_w hw 16 rfl)) Via.refl e191 F194 (g := (mkF m 126 #[vr a1, vr a2, vi (0 : Int32), vi hs2, vi (31 : Int32), vi t, vi (1 : Int32)] [(.ref a1), (.int (1 : Int32))])) rfl rfl (hb hby d4_126)
    have go197 : Go p e below s₁ F0 T196 (mkF m 129 #[vr a1, vr a2, vi (0 : Int32), vi hs2, vi (31 : Int32), vi t, vi (1 : Int32)] [(.ref bh), (.int (1 : Int32))]) := fun t_ k_ => go195 t_ (st196 t_ k_)
    have F198 : Arv Z h191 bh kh .int (16 : Int32) ((.int hs) :: own_zi 15) (.int (0 : Int32)) := (Vh.other W191 (Ne.symm nah))
    obtain ⟨cl199, Ar199, -, Sz199, Nn199, -, -⟩ := id F198
    have F200 : Fld Z h191 a1 c_0 "words" "[J" (.ref bw) := (Fwo.other W191 (Or.inr (slot_ne (Or.inl (own_w hw 14 rfl)) (Or.inl (own_w hw 38 rfl)) (by decide) (t := (.array .long)) (t' := .int) (by decide) (by decide))))
    have go201 : Go p e below s₁ F0 T196 (mkF m 171 #[vr a1, vr a2, vi (0 : Int32), vi hs2, vi (31 : Int32), vi t, vi (1 : Int32)] [(.ref a1), (.int (0 : Int32)), (.ref a2)]) := by
      intro t_ k_
      refine go197 t_ ?_
      refine o_len X196 hx hZ e196 Ar199 Sz199 Nn199 (hb hby d4_129) ?_
      refine o_icmpYes X196 hx (hb hby d4_130) (pc' := 168) rfl (by decide) (feq (by decide : ¬ ((1 : Int32) = (16 : Int32)))).2 ?_
      refine o_aloadN X196 hx (hb hby d4_168) rfl rfl ?_
      refine o_iloadN X196 hx (hb hby d4_169) rfl ?_
      refine o_aloadN X196 hx (hb hby d4_170) rfl rfl ?_
      exact k_
    obtain ⟨T202, X202, e202, st202⟩ := getF X196 hx hZ hown (host := "") (Or.inl (own_w hw 13 rfl)) Via.refl e196 F200 (g := (mkF m 171 #[vr a1, vr a2, vi (0 : Int32), vi hs2, vi (31 : Int32), vi t, vi (1 : Int32)] [(.ref a1), (.int (0 : Int32)), (.ref a2)])) rfl rfl (hb hby d4_171)
    have go203 : Go p e below s₁ F0 T202 (mkF m 174 #[vr a1, vr a2, vi (0 : Int32), vi hs2, vi (31 : Int32), vi t, vi (1 : Int32)] [(.ref bw), (.int (0 : Int32)), (.ref a2)]) := fun t_ k_ => go201 t_ (st202 t_ k_)
    have F204 : Fld Z h191 a1 c_0 "width" "I" (.int (1 : Int32)) := (Fwi.other W191 (Or.inr (slot_ne (Or.inr (own_w hw 12 rfl)) (Or.inl (own_w hw 38 rfl)) (by decide) (t := .int) (t' := .int) (by decide) (by decide))))
    have go205 : Go p e below s₁ F0 T202 (mkF m 177 #[vr a1, vr a2, vi (0 : Int32), vi hs2, vi (31 : Int32), vi t, vi (1 : Int32)] [(.ref a1), (.int (1 : Int32)), (.ref bw), (.int (0 : Int32)), (.ref a2)]) := by
      intro t_ k_
      refine go203 t_ ?_
      refine o_iload X202 hx (hb hby d4_174) rfl ?_
      refine o_aloadN X202 hx (hb hby d4_176) rfl rfl ?_
      exact k_
    obtain ⟨T206, X206, e206, st206⟩ := getF X202 hx hZ hown (host := "") (Or.inl (own_w hw 11 rfl)) Via.refl e202 F204 (g := (mkF m 177 #[vr a1, vr a2, vi (0 : Int32), vi hs2, vi (31 : Int32), vi t, vi (1 : Int32)] [(.ref a1), (.int (1 : Int32)), (.ref bw), (.int (0 : Int32)), (.ref a2)])) rfl rfl (hb hby d4_177)
    have go207 : Go p e below s₁ F0 T206 (mkF m 180 #[vr a1, vr a2, vi (0 : Int32), vi hs2, vi (31 : Int32), vi t, vi (1 : Int32)] [(.int (1 : Int32)), (.int (1 : Int32)), (.ref bw), (.int (0 : Int32)), (.ref a2)]) := fun t_ k_ => go205 t_ (st206 t_ k_)
    have go208 : Go p e below s₁ F0 T206 (mkF m 182 #[vr a1, vr a2, vi (0 : Int32), vi hs2, vi (31 : Int32), vi t, vi (1 : Int32)] [(.ref a1), (.int (1 : Int32)), (.ref bw), (.int (0 : Int32)), (.ref a2)]) := by
      intro t_ k_
      refine go207 t_ ?_
      refine o_imulE X206 hx (hb hby d4_180) (v := 1) rfl ?_
      refine o_aloadN X206 hx (hb hby d4_181) rfl rfl ?_
      exact k_
    obtain ⟨T209, X209, e209, st209⟩ := getF X206 hx hZ hown (host := "") (Or.inl (own_w hw 11 rfl)) Via.refl e206 F204 (g := (mkF m 182 #[vr a1, vr a2, vi (0 : Int32), vi hs2, vi (31 : Int32), vi t, vi (1 : Int32)] [(.ref a1), (.int (1 : Int32)), (.ref bw), (.int (0 : Int32)), (.ref a2)])) rfl rfl (hb hby d4_182)
    have go210 : Go p e below s₁ F0 T209 (mkF m 185 #[vr a1, vr a2, vi (0 : Int32), vi hs2, vi (31 : Int32), vi t, vi (1 : Int32)] [(.int (1 : Int32)), (.int (1 : Int32)), (.ref bw), (.int (0 : Int32)), (.ref a2)]) := fun t_ k_ => go208 t_ (st209 t_ k_)
    have F211 : Arv Z h191 a2 k2 .long (2 : Int32) [(.long y0), (.long y1)] (.long (0 : Int64)) := (V2.other W191 (Ne.symm n12))
    have F212 : Arv Z h191 bw kw .long (16 : Int32) ((.long x0) :: own_zl 15) (.long (0 : Int64)) := (Vw.other W191 (Ne.symm naw))
    obtain ⟨T213, h213, L213, X213, e213, N213, Kc213, Vc213, st213⟩ := cpA X209 hx hZ hown (own_w hw 39 rfl) (own_w hw 42 rfl) (own_w hw 40 rfl) (own_w hw 41 rfl) e209 F211 F212 (Or.inl ⟨rfl, rfl⟩) (by decide) (by decide) (by decide) (by decide) (by decide) (us := [(.long y0)]) rfl (Nat.le_of_ble_eq_true rfl) N191 gw (g := (mkF m 185 #[vr a1, vr a2, vi (0 : Int32), vi hs2, vi (31 : Int32), vi t, vi (1 : Int32)] [(.int (1 : Int32)), (.int (1 : Int32)), (.ref bw), (.int (0 : Int32)), (.ref a2)])) rfl (by rw [hml]; rfl) rfl (hb hby d4_185) (by decide) (W := 0) (by show 2 * 0 + _ ≤ _; exact Nat.le_of_eq rfl) (by decide)
    have V213 : Arv Z h213 bw kw .long (16 : Int32) ((.long x0) :: (.long y0) :: own_zl 14) (.long (0 : Int64)) := Vc213
    have K214 : Keep h0 h213 [a1, bw, bh, bs] := K192.trans Kc213 (allS (Or.inl (List.mem_of_getElem? (i := 1) rfl)) all0)
    have Z214 : n0 ≤ h213.size := Nat.le_trans Z192 Kc213.1
    have go215 : Go p e below s₁ F0 T213 (mkF m 188 #[vr a1, vr a2, vi (0 : Int32), vi hs2, vi (31 : Int32), vi t, vi (1 : Int32)] []) := fun t_ k_ => go210 t_ (st213 t_ k_)
    have F216 : Fld Z h213 a1 c_0 "hashes" "[I" (.ref bh) := (F194.keep Kc213 (ninS naw nin0))
    have go217 : Go p e below s₁ F0 T213 (mkF m 189 #[vr a1, vr a2, vi (0 : Int32), vi hs2, vi (31 : Int32), vi t, vi (1 : Int32)] [(.ref a1)]) := by
      intro t_ k_
      refine go215 t_ ?_
      refine o_aloadN X213 hx (hb hby d4_188) rfl rfl ?_
      exact k_
    obtain ⟨T218, X218, e218, st218⟩ := getF X213 hx hZ hown (host := "") (Or.inl (own_w hw 16 rfl)) Via.refl e213 F216 (g := (mkF m 189 #[vr a1, vr a2, vi (0 : Int32), vi hs2, vi (31 : Int32), vi t, vi (1 : Int32)] [(.ref a1)])) rfl rfl (hb hby d4_189)
    have go219 : Go p e below s₁ F0 T218 (mkF m 192 #[vr a1, vr a2, vi (0 : Int32), vi hs2, vi (31 : Int32), vi t, vi (1 : Int32)] [(.ref bh)]) := fun t_ k_ => go217 t_ (st218 t_ k_)
    have F220 : Arv Z h213 bh kh .int (16 : Int32) ((.int hs) :: own_zi 15) (.int (0 : Int32)) := (F198.keep Kc213 (ninS (Ne.symm nwh) nin0))
    have go221 : Go p e below s₁ F0 T218 (mkF m 195 #[vr a1, vr a2, vi (0 : Int32), vi hs2, vi (31 : Int32), vi t, vi (1 : Int32)] [(.int hs2), (.int (1 : Int32)), (.ref bh)]) := by
      intro t_ k_
      refine go219 t_ ?_
      refine o_iload X218 hx (hb hby d4_192) rfl ?_
      refine o_iloadN X218 hx (hb hby d4_194) rfl ?_
      exact k_
    obtain ⟨cl222, Ar222, q222, Sz222, Nn222, Hs222, G222⟩ := id F220
    have hin222 : ¬ ((1 : Int32) < 0 ∨ cl222.slots.size ≤ ((1 : Int32)).toNatClampNeg) := inb_of Sz222 ⟨by decide, by decide⟩
    obtain ⟨T222, h222, X222, e222, W222, st222⟩ := stI X218 hx hZ e218 Ar222 (j := (1 : Int32)) hin222 (g := (mkF m 195 #[vr a1, vr a2, vi (0 : Int32), vi hs2, vi (31 : Int32), vi t, vi (1 : Int32)] [(.int hs2), (.int (1 : Int32)), (.ref bh)])) rfl rfl (hb hby d4_195)
    have V222 : Arv Z h222 bh kh .int (16 : Int32) ((.int hs) :: (.int hs2) :: own_zi 14) (.int (0 : Int32)) := Arv.set Ar222 q222 Sz222 Nn222 Hs222 G222 rfl W222 1 rfl (Nat.le_of_ble_eq_true rfl)
    have K223 : Keep h0 h222 [a1, bw, bh, bs] := K214.wr W222 (Or.inl (List.mem_of_getElem? (i := 2) rfl))
    have Z223 : n0 ≤ h222.size := Nat.le_trans Z214 (Keep.of_wr W222).1
    have N222 := Fr.snoc X222 N213 gh
    have go224 : Go p e below s₁ F0 T222 (mkF m 196 #[vr a1, vr a2, vi (0 : Int32), vi hs2, vi (31 : Int32), vi t, vi (1 : Int32)] []) := fun t_ k_ => go221 t_ (st222 t_ k_)
    have F225 : Fld Z h222 a1 c_0 "slots" "[I" (.ref bs) := (((Fsl.other W191 (Or.inr (slot_ne (Or.inl (own_w hw 19 rfl)) (Or.inl (own_w hw 38 rfl)) (by decide) (t := (.array .int)) (t' := .int) (by decide) (by decide)))).keep Kc213 (ninS naw nin0)).other W222 (Or.inl nah))
    have go226 : Go p e below s₁ F0 T222 (mkF m 197 #[vr a1, vr a2, vi (0 : Int32), vi hs2, vi (31 : Int32), vi t, vi (1 : Int32)] [(.ref a1)]) := by
      intro t_ k_
      refine go224 t_ ?_
      refine o_aloadN X222 hx (hb hby d4_196) rfl rfl ?_
      exact k_
    obtain ⟨T227, X227, e227, st227⟩ := getF X222 hx hZ hown (host := "") (Or.inl (own_w hw 18 rfl)) Via.refl e222 F225 (g := (mkF m 197 #[vr a1, vr a2, vi (0 : Int32), vi hs2, vi (31 : Int32), vi t, vi (1 : Int32)] [(.ref a1)])) rfl rfl (hb hby d4_197)
    have go228 : Go p e below s₁ F0 T227 (mkF m 200 #[vr a1, vr a2, vi (0 : Int32), vi hs2, vi (31 : Int32), vi t, vi (1 : Int32)] [(.ref bs)]) := fun t_ k_ => go226 t_ (st227 t_ k_)
    have F229 : Arv Z h222 bs ks .int (32 : Int32) (own_sl sl) (.int (0 : Int32)) := (((Vs.other W191 (Ne.symm nas)).keep Kc213 (ninS (Ne.symm nws) nin0)).other W222 (Ne.symm nhs))
    have go230 : Go p e below s₁ F0 T227 (mkF m 206 #[vr a1, vr a2, vi (0 : Int32), vi hs2, vi (31 : Int32), vi t, vi (1 : Int32)] [(.int (2 : Int32)), (.int t), (.ref bs)]) := by
      intro t_ k_
      refine go228 t_ ?_
      refine o_iload X227 hx (hb hby d4_200) rfl ?_
      refine o_iload X227 hx (hb hby d4_202) rfl ?_
      refine o_iconst X227 hx (hb hby d4_204) (v := 1) rfl ?_
      refine o_iaddE X227 hx (hb hby d4_205) (v := 2) rfl ?_
      exact k_
    obtain ⟨cl231, Ar231, q231, Sz231, Nn231, Hs231, G231⟩ := id F229
    have hin231 : ¬ (t < 0 ∨ cl231.slots.size ≤ (t).toNatClampNeg) := inb_of Sz231 (own_in h_t)
    obtain ⟨T231, h231, X231, e231, W231, st231⟩ := stI X227 hx hZ e227 Ar231 (j := t) hin231 (g := (mkF m 206 #[vr a1, vr a2, vi (0 : Int32), vi hs2, vi (31 : Int32), vi t, vi (1 : Int32)] [(.int (2 : Int32)), (.int t), (.ref bs)])) rfl rfl (hb hby d4_206)
    have V231 : Arv Z h231 bs ks .int (32 : Int32) ((own_sl sl).set t.toNatClampNeg (.int (2 : Int32))) (.int (0 : Int32)) := Arv.set Ar231 q231 Sz231 Nn231 Hs231 G231 rfl W231 t.toNatClampNeg rfl (own_ls (own_in h_t))
    have K232 : Keep h0 h231 [a1, bw, bh, bs] := K223.wr W231 (Or.inl (List.mem_of_getElem? (i := 3) rfl))
    have Z232 : n0 ≤ h231.size := Nat.le_trans Z223 (Keep.of_wr W231).1
    have N231 := Fr.snoc X231 N222 gs
    have go233 : Go p e below s₁ F0 T231 (mkF m 207 #[vr a1, vr a2, vi (0 : Int32), vi hs2, vi (31 : Int32), vi t, vi (1 : Int32)] []) := fun t_ k_ => go230 t_ (st231 t_ k_)
    have F234 : Fld Z h231 a1 c_0 "count" "I" (.int (2 : Int32)) := (((Fw191.keep Kc213 (ninS naw nin0)).other W222 (Or.inl nah)).other W231 (Or.inl nas))
    have go235 : Go p e below s₁ F0 T231 (mkF m 209 #[vr a1, vr a2, vi (0 : Int32), vi hs2, vi (31 : Int32), vi t, vi (1 : Int32)] [(.ref a1), (.int (2 : Int32))]) := by
      intro t_ k_
      refine go233 t_ ?_
      refine o_iconst X231 hx (hb hby d4_207) (v := 2) rfl ?_
      refine o_aloadN X231 hx (hb hby d4_208) rfl rfl ?_
      exact k_
    obtain ⟨T236, X236, e236, st236⟩ := getF X231 hx hZ hown (host := "") (Or.inl (own_w hw 37 rfl)) Via.refl e231 F234 (g := (mkF m 209 #[vr a1, vr a2, vi (0 : Int32), vi hs2, vi (31 : Int32), vi t, vi (1 : Int32)] [(.ref a1), (.int (2 : Int32))])) rfl rfl (hb hby d4_209)
    have go237 : Go p e below s₁ F0 T236 (mkF m 212 #[vr a1, vr a2, vi (0 : Int32), vi hs2, vi (31 : Int32), vi t, vi (1 : Int32)] [(.int (2 : Int32)), (.int (2 : Int32))]) := fun t_ k_ => go235 t_ (st236 t_ k_)
    have F238 : Fld Z h231 a1 c_0 "slots" "[I" (.ref bs) := (F225.other W231 (Or.inl nas))
    have go239 : Go p e below s₁ F0 T236 (mkF m 214 #[vr a1, vr a2, vi (0 : Int32), vi hs2, vi (31 : Int32), vi t, vi (1 : Int32)] [(.ref a1), (.int (4 : Int32))]) := by
      intro t_ k_
      refine go237 t_ ?_
      refine o_imulE X236 hx (hb hby d4_212) (v := 4) rfl ?_
      refine o_aloadN X236 hx (hb hby d4_213) rfl rfl ?_
      exact k_
    obtain ⟨T240, X240, e240, st240⟩ := getF X236 hx hZ hown (host := "") (Or.inl (own_w hw 18 rfl)) Via.refl e236 F238 (g := (mkF m 214 #[vr a1, vr a2, vi (0 : Int32), vi hs2, vi (31 : Int32), vi t, vi (1 : Int32)] [(.ref a1), (.int (4 : Int32))])) rfl rfl (hb hby d4_214)
    have go241 : Go p e below s₁ F0 T240 (mkF m 217 #[vr a1, vr a2, vi (0 : Int32), vi hs2, vi (31 : Int32), vi t, vi (1 : Int32)] [(.ref bs), (.int (4 : Int32))]) := fun t_ k_ => go239 t_ (st240 t_ k_)
    obtain ⟨cl242, Ar242, -, Sz242, Nn242, -, -⟩ := id V231
    have go243 : Go p e below s₁ F0 T240 (mkF m 227 #[vr a1, vr a2, vi (0 : Int32), vi hs2, vi (31 : Int32), vi t, vi (1 : Int32)] [(.int (1 : Int32))]) := by
      intro t_ k_
      refine go241 t_ ?_
      refine o_len X240 hx hZ e240 Ar242 Sz242 Nn242 (hb hby d4_217) ?_
      refine o_icmpYes X240 hx (hb hby d4_218) (pc' := 225) rfl (by decide) (flt (by decide : ¬ ((32 : Int32) < (4 : Int32)))).2.2.2 ?_
      refine o_iload X240 hx (hb hby d4_225) rfl ?_
      exact k_
    obtain ⟨fs, hr, hrun, hended, hW, hsame⟩ := X240.leave (v := some (.int (1 : Int32))) (fun h => by rw [Bd.returns] at h; cases h)
    refine ⟨_, _, pre0 _ (go243 _ ?_), hrun, hended, _, _, rfl, ?_, ⟨_, rfl⟩, hW, hsame.mono (by decide) (by decide)⟩
    · skip
      exact retI X240 hx Bd.returns (hb hby d4_227) hr
    · show Q4_b1 Z a1 a2 bw bh bs kw kh ks k2 hs sl x0 y0 y1 h0 n0 _ T240.heap _
      rw [e240]
      have F244 : Fld Z h231 a1 c_0 "width" "I" (.int (1 : Int32)) := (((F204.keep Kc213 (ninS naw nin0)).other W222 (Or.inl nah)).other W231 (Or.inl nas))
      have F245 : Fld Z h231 a1 c_0 "words" "[J" (.ref bw) := (((F200.keep Kc213 (ninS naw nin0)).other W222 (Or.inl nah)).other W231 (Or.inl nas))
      have F246 : Arv Z h231 bw kw .long (16 : Int32) ((.long x0) :: (.long y0) :: own_zl 14) (.long (0 : Int64)) := ((V213.other W222 nwh).other W231 nws)
      exact ⟨(1 : Int32), y0, rfl, N231, K232, F244, F245, F246, (Or.inr ⟨rfl, (own_neT_1 hhs hsl h_hs2 h_t hb52_23), rfl⟩)⟩

theorem pn_3_b1 : plainName "com/example/grammar_game_solver/grammargamesolver/summary/NumberedSets" = true := by first | (simp [plainName, overriddenIn]; done) | decide +kernel
theorem pd3_b1_0 : parseMethodDescriptor "([JI)I" = some ⟨[(.array .long), .int], some .int⟩ := by decide +kernel
theorem ef_3_b1 (m : MethodId) (x0 : Addr) (x1 : Addr) : entryFrame m #[(.ref x0), (.ref x1)] 2 = mkF m 0 #[vr x0, vr x1] [] := by first | (simp [entryFrame, mkF, argsToLocals, Value.category]; done) | rfl
def Q3_b1 (Z : State) (a1 : Addr) (a2 : Addr) (bw : Addr) (bh : Addr) (bs : Addr) (kw : ClassId) (kh : ClassId) (ks : ClassId) (k2 : ClassId) (hs : Int32) (sl : Int32) (x0 : Int64) (y0 : Int64) (y1 : Int64) (h0 : Heap) (n0 : Nat) (v : Option Value) (h : Heap) (L : List Loc) : Prop := ∃ n : Int32, ∃ w0 : Int64, v = some (.int n) ∧ Fr n0 L ∧ Keep h0 h [a1, bw, bh, bs] ∧ Fld Z h a1 c_0 "width" "I" (.int (1 : Int32)) ∧ Fld Z h a1 c_0 "words" "[J" (.ref bw) ∧ Arv Z h bw kw .long (16 : Int32) ((.long x0) :: (.long w0) :: own_zl 14) (.long (0 : Int64)) ∧ ((n = (0 : Int32) ∧ x0 = y0) ∨ (n = (1 : Int32) ∧ ¬ x0 = y0 ∧ w0 = y0))
set_option maxRecDepth 65536 in
set_option maxHeartbeats 40000000 in
theorem rm3_b1 (l : Launch) (Z : State) (a0 : Array Value) (hw : ∀ d ∈ tables_1, d.before a0 Z = true) (ws : List Jvm.Cond) (a1 : Addr) (a2 : Addr) (bw : Addr) (bh : Addr) (bs : Addr) (kw : ClassId) (kh : ClassId) (ks : ClassId) (k2 : ClassId) (hs : Int32) (sl : Int32) (x0 : Int64) (y0 : Int64) (y1 : Int64) (h0 : Heap) (n0 : Nat) (Z0 : n0 ≤ h0.size) (E0 : Exa Z h0 a1 c_0) (Fwi : Fld Z h0 a1 c_0 "width" "I" (.int (1 : Int32))) (Fwo : Fld Z h0 a1 c_0 "words" "[J" (.ref bw)) (Fha : Fld Z h0 a1 c_0 "hashes" "[I" (.ref bh)) (Fsl : Fld Z h0 a1 c_0 "slots" "[I" (.ref bs)) (Fco : Fld Z h0 a1 c_0 "count" "I" (.int (1 : Int32))) (Vw : Arv Z h0 bw kw .long (16 : Int32) ((.long x0) :: own_zl 15) (.long (0 : Int64))) (Vh : Arv Z h0 bh kh .int (16 : Int32) ((.int hs) :: own_zi 15) (.int (0 : Int32))) (Vs : Arv Z h0 bs ks .int (32 : Int32) (own_sl sl) (.int (0 : Int32))) (V2 : Arv Z h0 a2 k2 .long (2 : Int32) [(.long y0), (.long y1)] (.long (0 : Int64))) (g1 : n0 ≤ a1) (gw : n0 ≤ bw) (gh : n0 ≤ bh) (gs : n0 ≤ bs) (naw : a1 ≠ bw) (nah : a1 ≠ bh) (nas : a1 ≠ bs) (n2w : a2 ≠ bw) (n2h : a2 ≠ bh) (n2s : a2 ≠ bs) (n12 : a1 ≠ a2) (nwh : bw ≠ bh) (nws : bw ≠ bs) (nhs : bh ≠ bs) (hhs : hs = ((31 : Int32) + (f5 x0))) (hsl : sl = (f6 hs (31 : Int32))) :
    MetFree l y_4 (head1 (Jvm.Cond.code y_4 prog_63_method_4_code 2 (some .int) :: ws) ({ frames := 2, cells := 0, slots := 0, locals := 36 } : Room)) (fun a U => a = #[(.ref a1), (.ref a2)] ∧ Z.Warmed39 U.vm ∧ U.heap = h0) (fun _ _ _ _ _ => True) (fun _ U o U' => ∃ v L, o = .returned v ∧ Q3_b1 Z a1 a2 bw bh bs kw kh ks k2 hs sl x0 y0 y1 h0 n0 v U'.heap L ∧ FrameEnd U o U' L ({ frames := 2, cells := 0, slots := 0, locals := 36 } : Room).cells ({ frames := 2, cells := 0, slots := 0, locals := 36 } : Room).slots) := by
  refine MetFree.of_bodySF (plainFor_of_name pn_3_b1) hisR ?_
  intro p e s m args below meth c s₁ Bd hml0 hP hK
  obtain ⟨rfl, hZ, hh⟩ := hP
  have hx := Bd.exec
  have hby := Bd.bytes
  have hml : c.maxLocals = 2 := hml0
  have hown : s.vm.findClass "com/example/grammar_game_solver/grammargamesolver/summary/NumberedSets" = some m.cls := findClass_of_methodNamed Bd.named
  have hnm := (name_of_methodNamed Bd.named Bd.method).1
  have X0 : Stand p l e ({ frames := 2, cells := 0, slots := 0, locals := 36 } : Room) s m #[(.ref a1), (.ref a2)] below meth c s₁ [] 0 0 := Stand.of_body Bd
  have e0 : s₁.heap = h0 := by rw [← hh, Bd.state]; rfl
  have N0 := Fr.nil n0
  have K0 : Keep h0 h0 [a1, bw, bh, bs] := Keep.refl h0 [a1, bw, bh, bs]
  obtain ⟨F0, hF0⟩ : ∃ F : JFrame, F = entryFrame m #[(.ref a1), (.ref a2)] 2 := ⟨_, rfl⟩
  have pre0 : ∀ t, Steps p.tables e below (s₁.setTop F0) t → Steps p.tables e below (s₁.setTop (entryFrame m #[(.ref a1), (.ref a2)] 2)) t := fun t k => hF0 ▸ k
  have go0 : Go p e below s₁ F0 s₁ (mkF m 0 #[vr a1, vr a2] []) := fun t k => castTop (hF0.trans (ef_3_b1 m a1 a2)) k
  have go1 : Go p e below s₁ F0 s₁ (mkF m 3 #[vr a1, vr a2] [(.int (0 : Int32)), (.ref a2), (.ref a1)]) := by
    intro t_ k_
    refine go0 t_ ?_
    refine o_aloadN X0 hx (hb hby d3_0) rfl rfl ?_
    refine o_aloadN X0 hx (hb hby d3_1) rfl rfl ?_
    refine o_iconst X0 hx (hb hby d3_2) (v := 0) rfl ?_
    exact k_
  obtain ⟨cq2, q2, q2'⟩ := E0.cell
  obtain ⟨_, _, ⟨T2, L2, k2, n2⟩, -, X2, ⟨Lc2, hQ2, l2, y2, z2⟩, st2⟩ := X0.privateBack hx (y := y_3) hown (mvT hZ (own_w hw 25 rfl)) (mvT hZ (own_w hw 26 rfl)) (own_selp (mvT hZ (own_w hw 3 rfl)) (mvP hZ (own_w hw 27 rfl)) (mvT hZ (own_w hw 26 rfl)) (by decide)) (Cond.privateMethod_at (mvP hZ (own_w hw 27 rfl) (args := #[]))) (mvT hZ (own_w hw 28 rfl)) (by decide) (backOf (W := 0) (rm4_b1 l Z a0 hw [] a1 a2 bw bh bs kw kh ks k2 hs sl x0 y0 y1 h0 n0 Z0 E0 Fwi Fwo Fha Fsl Fco Vw Vh Vs V2 g1 gw gh gs naw nah nas n2w n2h n2s n12 nwh nws nhs hhs hsl) hZ (own_w hw 28 rfl) (own_w hw 4 rfl) (by decide) (by decide)) (g := (mkF m 3 #[vr a1, vr a2] [(.int (0 : Int32)), (.ref a2), (.ref a1)])) rfl (by rw [hml]; rfl) (Steps.refl _) (a := a1) (by rw [e0]; exact q2) q2' (argsL := [(.ref a2), (.int (0 : Int32))]) (rest := []) (lenOf pd3_b1_0 rfl) rfl (by show 2 * 0 + _ ≤ _; exact Nat.le_of_eq rfl) (hb hby d3_3) (fun _ _ => ⟨rfl, e0, (by decide : 0 + 0 ≤ _), (by decide : 0 + 0 ≤ _)⟩)
  dsimp only [Pt.U, Pt.locs, Pt.cells, Pt.slots] at X2 l2 y2 z2 st2 hQ2
  subst l2 y2 z2
  obtain ⟨n_2, w0_2, rfl, Nq2, Kc2, Fwi_2, Fwo_2, Vw_2, hP_2⟩ := hQ2
  have N2 := Fr.app N0 Nq2
  have K3 : Keep h0 T2.heap [a1, bw, bh, bs] := K0.trans Kc2 (allS (Or.inl (List.mem_of_getElem? (i := 0) rfl)) (allS (Or.inl (List.mem_of_getElem? (i := 1) rfl)) (allS (Or.inl (List.mem_of_getElem? (i := 2) rfl)) (allS (Or.inl (List.mem_of_getElem? (i := 3) rfl)) all0))))
  have Z3 : n0 ≤ T2.heap.size := Nat.le_trans Z0 Kc2.1
  have go4 : Go p e below s₁ F0 T2 (mkF m 6 #[vr a1, vr a2] [(.int n_2)]) := fun t_ k_ => go1 t_ (st2.trans k_)
  obtain ⟨fs, hr, hrun, hended, hW, hsame⟩ := X2.leave (v := some (.int n_2)) (fun h => by rw [Bd.returns] at h; cases h)
  refine ⟨_, _, pre0 _ (go4 _ ?_), hrun, hended, _, _, rfl, ?_, ⟨_, rfl⟩, hW, hsame.mono (by decide) (by decide)⟩
  · skip
    exact retI X2 hx Bd.returns (hb hby d3_6) hr
  · show Q3_b1 Z a1 a2 bw bh bs kw kh ks k2 hs sl x0 y0 y1 h0 n0 _ T2.heap _
    exact ⟨n_2, w0_2, rfl, N2, K3, Fwi_2, Fwo_2, Vw_2, (by first | assumption | decide | omega)⟩

theorem pn_1_w2 : plainName "com/example/grammar_game_solver/grammargamesolver/summary/NumberedSets" = true := by first | (simp [plainName, overriddenIn]; done) | decide +kernel
theorem ef_1_w2 (m : MethodId) (x0 : Addr) : entryFrame m #[(.ref x0), (.int (2 : Int32))] 2 = mkF m 0 #[vr x0, vi (2 : Int32)] [] := by first | (simp [entryFrame, mkF, argsToLocals, Value.category]; done) | rfl
def Q1_w2 (Z : State) (a1 : Addr) (h0 : Heap) (n0 : Nat) (v : Option Value) (h : Heap) (L : List Loc) : Prop := ∃ bw : Addr, ∃ bh : Addr, ∃ bs : Addr, ∃ kw : ClassId, ∃ kh : ClassId, ∃ ks : ClassId, v = none ∧ Fr n0 L ∧ Keep h0 h [a1] ∧ h0.size ≤ bw ∧ h0.size ≤ bh ∧ h0.size ≤ bs ∧ bw ≠ bh ∧ bw ≠ bs ∧ bh ≠ bs ∧ Fld Z h a1 c_0 "width" "I" (.int (2 : Int32)) ∧ Fld Z h a1 c_0 "words" "[J" (.ref bw) ∧ Fld Z h a1 c_0 "hashes" "[I" (.ref bh) ∧ Fld Z h a1 c_0 "slots" "[I" (.ref bs) ∧ Fld Z h a1 c_0 "count" "I" (.int (0 : Int32)) ∧ Arv Z h bw kw .long (32 : Int32) (own_zl 32) (.long (0 : Int64)) ∧ Arv Z h bh kh .int (16 : Int32) (own_zi 16) (.int (0 : Int32)) ∧ Arv Z h bs ks .int (32 : Int32) (own_zi 32) (.int (0 : Int32))
set_option maxRecDepth 65536 in
set_option maxHeartbeats 40000000 in
theorem rm1_w2 (l : Launch) (Z : State) (a0 : Array Value) (hw : ∀ d ∈ tables_1, d.before a0 Z = true) (ws : List Jvm.Cond) (a1 : Addr) (h0 : Heap) (n0 : Nat) (Z0 : n0 ≤ h0.size) (E0 : Exa Z h0 a1 c_0) (F1 : Fld Z h0 a1 c_0 "width" "I" (.int (0 : Int32))) (F2 : Fld Z h0 a1 c_0 "words" "[J" .null) (F3 : Fld Z h0 a1 c_0 "hashes" "[I" .null) (F4 : Fld Z h0 a1 c_0 "slots" "[I" .null) (F5 : Fld Z h0 a1 c_0 "count" "I" (.int (0 : Int32))) (g1 : n0 ≤ a1) :
    MetFree l y_2 (head1 (Jvm.Cond.code y_2 prog_63_method_1_code 2 none :: ws) ({ frames := 1, cells := 3, slots := 80, locals := 12 } : Room)) (fun a U => a = #[(.ref a1), (.int (2 : Int32))] ∧ Z.Warmed39 U.vm ∧ U.heap = h0) (fun _ _ _ _ _ => True) (fun _ U o U' => ∃ v L, o = .returned v ∧ Q1_w2 Z a1 h0 n0 v U'.heap L ∧ FrameEnd U o U' L ({ frames := 1, cells := 3, slots := 80, locals := 12 } : Room).cells ({ frames := 1, cells := 3, slots := 80, locals := 12 } : Room).slots) := by
  refine MetFree.of_bodySF (plainFor_of_name pn_1_w2) hisR ?_
  intro p e s m args below meth c s₁ Bd hml0 hP hK
  obtain ⟨rfl, hZ, hh⟩ := hP
  have hx := Bd.exec
  have hby := Bd.bytes
  have hml : c.maxLocals = 2 := hml0
  have hown : s.vm.findClass "com/example/grammar_game_solver/grammargamesolver/summary/NumberedSets" = some m.cls := findClass_of_methodNamed Bd.named
  have hnm := (name_of_methodNamed Bd.named Bd.method).1
  have X0 : Stand p l e ({ frames := 1, cells := 3, slots := 80, locals := 12 } : Room) s m #[(.ref a1), (.int (2 : Int32))] below meth c s₁ [] 0 0 := Stand.of_body Bd
  have e0 : s₁.heap = h0 := by rw [← hh, Bd.state]; rfl
  have N0 := Fr.nil n0
  have K0 : Keep h0 h0 [a1] := Keep.refl h0 [a1]
  obtain ⟨F0, hF0⟩ : ∃ F : JFrame, F = entryFrame m #[(.ref a1), (.int (2 : Int32))] 2 := ⟨_, rfl⟩
  have pre0 : ∀ t, Steps p.tables e below (s₁.setTop F0) t → Steps p.tables e below (s₁.setTop (entryFrame m #[(.ref a1), (.int (2 : Int32))] 2)) t := fun t k => hF0 ▸ k
  have go0 : Go p e below s₁ F0 s₁ (mkF m 0 #[vr a1, vi (2 : Int32)] []) := fun t k => castTop (hF0.trans (ef_1_w2 m a1)) k
  have go1 : Go p e below s₁ F0 s₁ (mkF m 1 #[vr a1, vi (2 : Int32)] [(.ref a1)]) := by
    intro t_ k_
    refine go0 t_ ?_
    refine o_aloadN X0 hx (hb hby d1_0) rfl rfl ?_
    exact k_
  obtain ⟨T2, X2, e2, st2⟩ := initO X0 hx hZ hown (own_w hw 8 rfl) (own_w hw 9 rfl) (own_w hw 10 rfl) e0 (g := (mkF m 1 #[vr a1, vi (2 : Int32)] [(.ref a1)])) rfl (by rw [hml]; rfl) rfl (hb hby d1_1) (by decide) (W := 0) (by show 2 * 0 + _ ≤ _; exact Nat.le_of_eq rfl) (by decide)
  have go3 : Go p e below s₁ F0 T2 (mkF m 4 #[vr a1, vi (2 : Int32)] []) := fun t_ k_ => go1 t_ (st2 t_ k_)
  have go4 : Go p e below s₁ F0 T2 (mkF m 6 #[vr a1, vi (2 : Int32)] [(.int (2 : Int32)), (.ref a1)]) := by
    intro t_ k_
    refine go3 t_ ?_
    refine o_aloadN X2 hx (hb hby d1_4) rfl rfl ?_
    refine o_iloadN X2 hx (hb hby d1_5) rfl ?_
    exact k_
  obtain ⟨T5, h5, X5, e5, W5, st5⟩ := putF X2 hx hZ hown (host := "") (Or.inl (own_w hw 11 rfl)) Via.refl e2 F1 E0 (Or.inr ⟨(own_w hw 12 rfl), rfl, hnm⟩) (own_w hw 3 rfl) (ty := .int) (by decide) rfl rfl (g := (mkF m 6 #[vr a1, vi (2 : Int32)] [(.int (2 : Int32)), (.ref a1)])) rfl rfl (hb hby d1_6)
  have Fw5 : Fld Z h5 a1 c_0 "width" "I" (.int (2 : Int32)) := Fld.same W5 F1
  have K6 : Keep h0 h5 [a1] := K0.wr W5 (Or.inl (List.mem_of_getElem? (i := 0) rfl))
  have Z6 : n0 ≤ h5.size := Nat.le_trans Z0 (Keep.of_wr W5).1
  have N5 := Fr.snoc X5 N0 g1
  have go7 : Go p e below s₁ F0 T5 (mkF m 9 #[vr a1, vi (2 : Int32)] []) := fun t_ k_ => go4 t_ (st5 t_ k_)
  have go8 : Go p e below s₁ F0 T5 (mkF m 14 #[vr a1, vi (2 : Int32)] [(.int (32 : Int32)), (.ref a1)]) := by
    intro t_ k_
    refine go7 t_ ?_
    refine o_aloadN X5 hx (hb hby d1_9) rfl rfl ?_
    refine o_bipush X5 hx (hb hby d1_10) (v := 16) rfl ?_
    refine o_iloadN X5 hx (hb hby d1_12) rfl ?_
    refine o_imulE X5 hx (hb hby d1_13) (v := 32) rfl ?_
    exact k_
  obtain ⟨T9, h9, k9, X9, e9, E9, A9, st9⟩ := newP X5 hx hZ (own_w hw 0 rfl) e5 (g := (mkF m 14 #[vr a1, vi (2 : Int32)] [(.int (32 : Int32)), (.ref a1)])) rfl (hb hby d1_14) rfl (by decide) (cap := 32) (by decide) (by decide) (by decide) (by decide)
  obtain ⟨b9, gz9⟩ : ∃ z, z = h5.size := ⟨_, rfl⟩
  rw [← gz9] at A9 st9
  have F10 : Exa Z h5 a1 c_0 := (E0.wr W5)
  have ne11 : a1 ≠ b9 := Nat.ne_of_lt (Nat.lt_of_lt_of_le F10.lt (Nat.le_of_eq gz9.symm))
  have g_b9 : n0 ≤ b9 := Nat.le_trans Z6 (Nat.le_of_eq gz9.symm)
  have sz_b9 : h0.size ≤ b9 := Nat.le_trans K6.1 (Nat.le_of_eq gz9.symm)
  have K12 : Keep h0 h9 [a1] := K6.ext E9
  have Z12 : n0 ≤ h9.size := Nat.le_trans Z6 E9.1
  have V9 : Arv Z h9 b9 k9 .long (32 : Int32) (own_zl 32) (.long (0 : Int64)) := (Arv.new A9 (by decide)).pad (pad_rep [] (.long (0 : Int64)) 32)
  have go13 : Go p e below s₁ F0 T9 (mkF m 16 #[vr a1, vi (2 : Int32)] [(.ref b9), (.ref a1)]) := fun t_ k_ => go8 t_ (st9 t_ k_)
  have F14 : Exa Z h9 a1 c_0 := (F10.ext E9)
  have F15 : Fld Z h9 a1 c_0 "words" "[J" .null := ((F2.other W5 (Or.inr (slot_ne (Or.inl (own_w hw 14 rfl)) (Or.inr (own_w hw 12 rfl)) (by decide) (t := (.array .long)) (t' := .int) (by decide) (by decide)))).ext E9)
  obtain ⟨T16, h16, X16, e16, W16, st16⟩ := putF X9 hx hZ hown (host := "") (Or.inl (own_w hw 13 rfl)) Via.refl e9 F15 F14 (Or.inl (own_w hw 14 rfl)) (own_w hw 3 rfl) (ty := (.array .long)) (by decide) rfl rfl (g := (mkF m 16 #[vr a1, vi (2 : Int32)] [(.ref b9), (.ref a1)])) rfl rfl (hb hby d1_16)
  have Fw16 : Fld Z h16 a1 c_0 "words" "[J" (.ref b9) := Fld.same W16 F15
  have K17 : Keep h0 h16 [a1] := K12.wr W16 (Or.inl (List.mem_of_getElem? (i := 0) rfl))
  have Z17 : n0 ≤ h16.size := Nat.le_trans Z12 (Keep.of_wr W16).1
  have N16 := Fr.snoc X16 N5 g1
  have go18 : Go p e below s₁ F0 T16 (mkF m 19 #[vr a1, vi (2 : Int32)] []) := fun t_ k_ => go13 t_ (st16 t_ k_)
  have go19 : Go p e below s₁ F0 T16 (mkF m 22 #[vr a1, vi (2 : Int32)] [(.int (16 : Int32)), (.ref a1)]) := by
    intro t_ k_
    refine go18 t_ ?_
    refine o_aloadN X16 hx (hb hby d1_19) rfl rfl ?_
    refine o_bipush X16 hx (hb hby d1_20) (v := 16) rfl ?_
    exact k_
  obtain ⟨T20, h20, k20, X20, e20, E20, A20, st20⟩ := newP X16 hx hZ (own_w hw 15 rfl) e16 (g := (mkF m 22 #[vr a1, vi (2 : Int32)] [(.int (16 : Int32)), (.ref a1)])) rfl (hb hby d1_22) rfl (by decide) (cap := 16) (by decide) (by decide) (by decide) (by decide)
  obtain ⟨b20, gz20⟩ : ∃ z, z = h16.size := ⟨_, rfl⟩
  rw [← gz20] at A20 st20
  have F21 : Exa Z h16 a1 c_0 := (F14.wr W16)
  have ne22 : a1 ≠ b20 := Nat.ne_of_lt (Nat.lt_of_lt_of_le F21.lt (Nat.le_of_eq gz20.symm))
  have F23 : Arv Z h16 b9 k9 .long (32 : Int32) (own_zl 32) (.long (0 : Int64)) := (V9.other W16 (Ne.symm ne11))
  have ne24 : b9 ≠ b20 := Nat.ne_of_lt (Nat.lt_of_lt_of_le F23.lt (Nat.le_of_eq gz20.symm))
  have g_b20 : n0 ≤ b20 := Nat.le_trans Z17 (Nat.le_of_eq gz20.symm)
  have sz_b20 : h0.size ≤ b20 := Nat.le_trans K17.1 (Nat.le_of_eq gz20.symm)
  have K25 : Keep h0 h20 [a1] := K17.ext E20
  have Z25 : n0 ≤ h20.size := Nat.le_trans Z17 E20.1
  have V20 : Arv Z h20 b20 k20 .int (16 : Int32) (own_zi 16) (.int (0 : Int32)) := (Arv.new A20 (by decide)).pad (pad_rep [] (.int (0 : Int32)) 16)
  have go26 : Go p e below s₁ F0 T20 (mkF m 24 #[vr a1, vi (2 : Int32)] [(.ref b20), (.ref a1)]) := fun t_ k_ => go19 t_ (st20 t_ k_)
  have F27 : Exa Z h20 a1 c_0 := (F21.ext E20)
  have F28 : Fld Z h20 a1 c_0 "hashes" "[I" .null := ((((F3.other W5 (Or.inr (slot_ne (Or.inl (own_w hw 17 rfl)) (Or.inr (own_w hw 12 rfl)) (by decide) (t := (.array .int)) (t' := .int) (by decide) (by decide)))).ext E9).other W16 (Or.inr (slot_ne (Or.inl (own_w hw 17 rfl)) (Or.inl (own_w hw 14 rfl)) (by decide) (t := (.array .int)) (t' := (.array .long)) (by decide) (by decide)))).ext E20)
  obtain ⟨T29, h29, X29, e29, W29, st29⟩ := putF X20 hx hZ hown (host := "") (Or.inl (own_w hw 16 rfl)) Via.refl e20 F28 F27 (Or.inl (own_w hw 17 rfl)) (own_w hw 3 rfl) (ty := (.array .int)) (by decide) rfl rfl (g := (mkF m 24 #[vr a1, vi (2 : Int32)] [(.ref b20), (.ref a1)])) rfl rfl (hb hby d1_24)
  have Fw29 : Fld Z h29 a1 c_0 "hashes" "[I" (.ref b20) := Fld.same W29 F28
  have K30 : Keep h0 h29 [a1] := K25.wr W29 (Or.inl (List.mem_of_getElem? (i := 0) rfl))
  have Z30 : n0 ≤ h29.size := Nat.le_trans Z25 (Keep.of_wr W29).1
  have N29 := Fr.snoc X29 N16 g1
  have go31 : Go p e below s₁ F0 T29 (mkF m 27 #[vr a1, vi (2 : Int32)] []) := fun t_ k_ => go26 t_ (st29 t_ k_)
  have go32 : Go p e below s₁ F0 T29 (mkF m 30 #[vr a1, vi (2 : Int32)] [(.int (32 : Int32)), (.ref a1)]) := by
    intro t_ k_
    refine go31 t_ ?_
    refine o_aloadN X29 hx (hb hby d1_27) rfl rfl ?_
    refine o_bipush X29 hx (hb hby d1_28) (v := 32) rfl ?_
    exact k_
  obtain ⟨T33, h33, k33, X33, e33, E33, A33, st33⟩ := newP X29 hx hZ (own_w hw 15 rfl) e29 (g := (mkF m 30 #[vr a1, vi (2 : Int32)] [(.int (32 : Int32)), (.ref a1)])) rfl (hb hby d1_30) rfl (by decide) (cap := 32) (by decide) (by decide) (by decide) (by decide)
  obtain ⟨b33, gz33⟩ : ∃ z, z = h29.size := ⟨_, rfl⟩
  rw [← gz33] at A33 st33
  have F34 : Exa Z h29 a1 c_0 := (F27.wr W29)
  have ne35 : a1 ≠ b33 := Nat.ne_of_lt (Nat.lt_of_lt_of_le F34.lt (Nat.le_of_eq gz33.symm))
  have F36 : Arv Z h29 b9 k9 .long (32 : Int32) (own_zl 32) (.long (0 : Int64)) := ((F23.ext E20).other W29 (Ne.symm ne11))
  have ne37 : b9 ≠ b33 := Nat.ne_of_lt (Nat.lt_of_lt_of_le F36.lt (Nat.le_of_eq gz33.symm))
  have F38 : Arv Z h29 b20 k20 .int (16 : Int32) (own_zi 16) (.int (0 : Int32)) := (V20.other W29 (Ne.symm ne22))
  have ne39 : b20 ≠ b33 := Nat.ne_of_lt (Nat.lt_of_lt_of_le F38.lt (Nat.le_of_eq gz33.symm))
  have g_b33 : n0 ≤ b33 := Nat.le_trans Z30 (Nat.le_of_eq gz33.symm)
  have sz_b33 : h0.size ≤ b33 := Nat.le_trans K30.1 (Nat.le_of_eq gz33.symm)
  have K40 : Keep h0 h33 [a1] := K30.ext E33
  have Z40 : n0 ≤ h33.size := Nat.le_trans Z30 E33.1
  have V33 : Arv Z h33 b33 k33 .int (32 : Int32) (own_zi 32) (.int (0 : Int32)) := (Arv.new A33 (by decide)).pad (pad_rep [] (.int (0 : Int32)) 32)
  have go41 : Go p e below s₁ F0 T33 (mkF m 32 #[vr a1, vi (2 : Int32)] [(.ref b33), (.ref a1)]) := fun t_ k_ => go32 t_ (st33 t_ k_)
  have F42 : Exa Z h33 a1 c_0 := (F34.ext E33)
  have F43 : Fld Z h33 a1 c_0 "slots" "[I" .null := ((((((F4.other W5 (Or.inr (slot_ne (Or.inl (own_w hw 19 rfl)) (Or.inr (own_w hw 12 rfl)) (by decide) (t := (.array .int)) (t' := .int) (by decide) (by decide)))).ext E9).other W16 (Or.inr (slot_ne (Or.inl (own_w hw 19 rfl)) (Or.inl (own_w hw 14 rfl)) (by decide) (t := (.array .int)) (t' := (.array .long)) (by decide) (by decide)))).ext E20).other W29 (Or.inr (slot_ne (Or.inl (own_w hw 19 rfl)) (Or.inl (own_w hw 17 rfl)) (by decide) (t := (.array .int)) (t' := (.array .int)) (by decide) (by decide)))).ext E33)
  obtain ⟨T44, h44, X44, e44, W44, st44⟩ := putF X33 hx hZ hown (host := "") (Or.inl (own_w hw 18 rfl)) Via.refl e33 F43 F42 (Or.inl (own_w hw 19 rfl)) (own_w hw 3 rfl) (ty := (.array .int)) (by decide) rfl rfl (g := (mkF m 32 #[vr a1, vi (2 : Int32)] [(.ref b33), (.ref a1)])) rfl rfl (hb hby d1_32)
  have Fw44 : Fld Z h44 a1 c_0 "slots" "[I" (.ref b33) := Fld.same W44 F43
  have K45 : Keep h0 h44 [a1] := K40.wr W44 (Or.inl (List.mem_of_getElem? (i := 0) rfl))
  have Z45 : n0 ≤ h44.size := Nat.le_trans Z40 (Keep.of_wr W44).1
  have N44 := Fr.snoc X44 N29 g1
  have go46 : Go p e below s₁ F0 T44 (mkF m 35 #[vr a1, vi (2 : Int32)] []) := fun t_ k_ => go41 t_ (st44 t_ k_)
  obtain ⟨fs, hr, hrun, hended, hW, hsame⟩ := X44.leave (v := none) (fun _ => rfl)
  refine ⟨_, _, pre0 _ (go46 _ ?_), hrun, hended, _, _, rfl, ?_, ⟨_, rfl⟩, hW, hsame.mono (by decide) (by decide)⟩
  · skip
    exact X44.returnOut hx Bd.returns (hb hby d1_35) hr
  · show Q1_w2 Z a1 h0 n0 _ T44.heap _
    rw [e44]
    have F47 : Fld Z h44 a1 c_0 "width" "I" (.int (2 : Int32)) := ((((((Fw5.ext E9).other W16 (Or.inr (slot_ne (Or.inr (own_w hw 12 rfl)) (Or.inl (own_w hw 14 rfl)) (by decide) (t := .int) (t' := (.array .long)) (by decide) (by decide)))).ext E20).other W29 (Or.inr (slot_ne (Or.inr (own_w hw 12 rfl)) (Or.inl (own_w hw 17 rfl)) (by decide) (t := .int) (t' := (.array .int)) (by decide) (by decide)))).ext E33).other W44 (Or.inr (slot_ne (Or.inr (own_w hw 12 rfl)) (Or.inl (own_w hw 19 rfl)) (by decide) (t := .int) (t' := (.array .int)) (by decide) (by decide))))
    have F48 : Fld Z h44 a1 c_0 "words" "[J" (.ref b9) := ((((Fw16.ext E20).other W29 (Or.inr (slot_ne (Or.inl (own_w hw 14 rfl)) (Or.inl (own_w hw 17 rfl)) (by decide) (t := (.array .long)) (t' := (.array .int)) (by decide) (by decide)))).ext E33).other W44 (Or.inr (slot_ne (Or.inl (own_w hw 14 rfl)) (Or.inl (own_w hw 19 rfl)) (by decide) (t := (.array .long)) (t' := (.array .int)) (by decide) (by decide))))
    have F49 : Fld Z h44 a1 c_0 "hashes" "[I" (.ref b20) := ((Fw29.ext E33).other W44 (Or.inr (slot_ne (Or.inl (own_w hw 17 rfl)) (Or.inl (own_w hw 19 rfl)) (by decide) (t := (.array .int)) (t' := (.array .int)) (by decide) (by decide))))
    have F50 : Fld Z h44 a1 c_0 "count" "I" (.int (0 : Int32)) := (((((((F5.other W5 (Or.inr (slot_ne (Or.inl (own_w hw 38 rfl)) (Or.inr (own_w hw 12 rfl)) (by decide) (t := .int) (t' := .int) (by decide) (by decide)))).ext E9).other W16 (Or.inr (slot_ne (Or.inl (own_w hw 38 rfl)) (Or.inl (own_w hw 14 rfl)) (by decide) (t := .int) (t' := (.array .long)) (by decide) (by decide)))).ext E20).other W29 (Or.inr (slot_ne (Or.inl (own_w hw 38 rfl)) (Or.inl (own_w hw 17 rfl)) (by decide) (t := .int) (t' := (.array .int)) (by decide) (by decide)))).ext E33).other W44 (Or.inr (slot_ne (Or.inl (own_w hw 38 rfl)) (Or.inl (own_w hw 19 rfl)) (by decide) (t := .int) (t' := (.array .int)) (by decide) (by decide))))
    have F51 : Arv Z h44 b9 k9 .long (32 : Int32) (own_zl 32) (.long (0 : Int64)) := ((F36.ext E33).other W44 (Ne.symm ne11))
    have F52 : Arv Z h44 b20 k20 .int (16 : Int32) (own_zi 16) (.int (0 : Int32)) := ((F38.ext E33).other W44 (Ne.symm ne22))
    have F53 : Arv Z h44 b33 k33 .int (32 : Int32) (own_zi 32) (.int (0 : Int32)) := (V33.other W44 (Ne.symm ne35))
    exact ⟨b9, b20, b33, k9, k20, k33, rfl, N44, K45, sz_b9, sz_b20, sz_b33, ne24, ne37, ne39, F47, F48, F49, Fw44, F50, F51, F52, F53⟩

theorem pn_4_a2 : plainName "com/example/grammar_game_solver/grammargamesolver/summary/NumberedSets" = true := by first | (simp [plainName, overriddenIn]; done) | decide +kernel
theorem pd4_a2_0 : parseMethodDescriptor "(J)I" = some ⟨[.long], some .int⟩ := by decide +kernel
theorem pd4_a2_1 : parseMethodDescriptor "(II)I" = some ⟨[.int, .int], some .int⟩ := by decide +kernel
theorem ef_4_a2 (m : MethodId) (x0 : Addr) (x1 : Addr) : entryFrame m #[(.ref x0), (.ref x1), (.int (0 : Int32))] 7 = mkF m 0 #[vr x0, vr x1, vi (0 : Int32), .unset, .unset, .unset, .unset] [] := by first | (simp [entryFrame, mkF, argsToLocals, Value.category]; done) | rfl
def Q4_a2 (Z : State) (a1 : Addr) (a2 : Addr) (bw : Addr) (bh : Addr) (bs : Addr) (kw : ClassId) (kh : ClassId) (ks : ClassId) (k2 : ClassId) (x0 : Int64) (x1 : Int64) (h0 : Heap) (n0 : Nat) (v : Option Value) (h : Heap) (L : List Loc) : Prop := ∃ hs : Int32, ∃ sl : Int32, v = some (.int (0 : Int32)) ∧ Fr n0 L ∧ Keep h0 h [a1, bw, bh, bs] ∧ Fld Z h a1 c_0 "width" "I" (.int (2 : Int32)) ∧ Fld Z h a1 c_0 "words" "[J" (.ref bw) ∧ Fld Z h a1 c_0 "hashes" "[I" (.ref bh) ∧ Fld Z h a1 c_0 "slots" "[I" (.ref bs) ∧ Fld Z h a1 c_0 "count" "I" (.int (1 : Int32)) ∧ Arv Z h bw kw .long (32 : Int32) ((.long x0) :: (.long x1) :: own_zl 30) (.long (0 : Int64)) ∧ Arv Z h bh kh .int (16 : Int32) ((.int hs) :: own_zi 15) (.int (0 : Int32)) ∧ Arv Z h bs ks .int (32 : Int32) (own_sl sl) (.int (0 : Int32)) ∧ (hs = (((31 : Int32) * ((31 : Int32) + (f5 x0))) + (f5 x1))) ∧ (sl = (f6 hs (31 : Int32)))
set_option maxRecDepth 65536 in
set_option maxHeartbeats 40000000 in
theorem rm4_a2 (l : Launch) (Z : State) (a0 : Array Value) (hw : ∀ d ∈ tables_1, d.before a0 Z = true) (ws : List Jvm.Cond) (a1 : Addr) (a2 : Addr) (bw : Addr) (bh : Addr) (bs : Addr) (kw : ClassId) (kh : ClassId) (ks : ClassId) (k2 : ClassId) (x0 : Int64) (x1 : Int64) (h0 : Heap) (n0 : Nat) (Z0 : n0 ≤ h0.size) (E0 : Exa Z h0 a1 c_0) (Fwi : Fld Z h0 a1 c_0 "width" "I" (.int (2 : Int32))) (Fwo : Fld Z h0 a1 c_0 "words" "[J" (.ref bw)) (Fha : Fld Z h0 a1 c_0 "hashes" "[I" (.ref bh)) (Fsl : Fld Z h0 a1 c_0 "slots" "[I" (.ref bs)) (Fco : Fld Z h0 a1 c_0 "count" "I" (.int (0 : Int32))) (Vw : Arv Z h0 bw kw .long (32 : Int32) (own_zl 32) (.long (0 : Int64))) (Vh : Arv Z h0 bh kh .int (16 : Int32) (own_zi 16) (.int (0 : Int32))) (Vs : Arv Z h0 bs ks .int (32 : Int32) (own_zi 32) (.int (0 : Int32))) (V2 : Arv Z h0 a2 k2 .long (2 : Int32) [(.long x0), (.long x1)] (.long (0 : Int64))) (g1 : n0 ≤ a1) (gw : n0 ≤ bw) (gh : n0 ≤ bh) (gs : n0 ≤ bs) (naw : a1 ≠ bw) (nah : a1 ≠ bh) (nas : a1 ≠ bs) (n2w : a2 ≠ bw) (n2h : a2 ≠ bh) (n2s : a2 ≠ bs) (n12 : a1 ≠ a2) (nwh : bw ≠ bh) (nws : bw ≠ bs) (nhs : bh ≠ bs) :
    MetFree l y_3 (head1 (Jvm.Cond.code y_3 prog_63_method_6_code 7 (some .int) :: ws) ({ frames := 1, cells := 0, slots := 0, locals := 18 } : Room)) (fun a U => a = #[(.ref a1), (.ref a2), (.int (0 : Int32))] ∧ Z.Warmed39 U.vm ∧ U.heap = h0) (fun _ _ _ _ _ => True) (fun _ U o U' => ∃ v L, o = .returned v ∧ Q4_a2 Z a1 a2 bw bh bs kw kh ks k2 x0 x1 h0 n0 v U'.heap L ∧ FrameEnd U o U' L ({ frames := 1, cells := 0, slots := 0, locals := 18 } : Room).cells ({ frames := 1, cells := 0, slots := 0, locals := 18 } : Room).slots) := by
  refine MetFree.of_bodySF (plainFor_of_name pn_4_a2) hisR ?_
  intro p e s m args below meth c s₁ Bd hml0 hP hK
  obtain ⟨rfl, hZ, hh⟩ := hP
  have hx := Bd.exec
  have hby := Bd.bytes
  have hml : c.maxLocals = 7 := hml0
  have hown : s.vm.findClass "com/example/grammar_game_solver/grammargamesolver/summary/NumberedSets" = some m.cls := findClass_of_methodNamed Bd.named
  have hnm := (name_of_methodNamed Bd.named Bd.method).1
  have X0 : Stand p l e ({ frames := 1, cells := 0, slots := 0, locals := 18 } : Room) s m #[(.ref a1), (.ref a2), (.int (0 : Int32))] below meth c s₁ [] 0 0 := Stand.of_body Bd
  have e0 : s₁.heap = h0 := by rw [← hh, Bd.state]; rfl
  have N0 := Fr.nil n0
  have K0 : Keep h0 h0 [a1, bw, bh, bs] := Keep.refl h0 [a1, bw, bh, bs]
  obtain ⟨F0, hF0⟩ : ∃ F : JFrame, F = entryFrame m #[(.ref a1), (.ref a2), (.int (0 : Int32))] 7 := ⟨_, rfl⟩
  have pre0 : ∀ t, Steps p.tables e below (s₁.setTop F0) t → Steps p.tables e below (s₁.setTop (entryFrame m #[(.ref a1), (.ref a2), (.int (0 : Int32))] 7)) t := fun t k => hF0 ▸ k
  have go0 : Go p e below s₁ F0 s₁ (mkF m 0 #[vr a1, vr a2, vi (0 : Int32), .unset, .unset, .unset, .unset] []) := fun t k => castTop (hF0.trans (ef_4_a2 m a1 a2)) k
  have go1 : Go p e below s₁ F0 s₁ (mkF m 8 #[vr a1, vr a2, vi (0 : Int32), vi (1 : Int32), vi (0 : Int32), .unset, .unset] [(.ref a1), (.int (0 : Int32))]) := by
    intro t_ k_
    refine go0 t_ ?_
    refine o_iconst X0 hx (hb hby d4_0) (v := 1) rfl ?_
    refine o_istoreN X0 hx (hb hby d4_1) (L' := #[vr a1, vr a2, vi (0 : Int32), vi (1 : Int32), .unset, .unset, .unset]) rfl ?_
    refine o_iconst X0 hx (hb hby d4_2) (v := 0) rfl ?_
    refine o_istore X0 hx (hb hby d4_3) (L' := #[vr a1, vr a2, vi (0 : Int32), vi (1 : Int32), vi (0 : Int32), .unset, .unset]) rfl ?_
    refine o_iload X0 hx (hb hby d4_5) rfl ?_
    refine o_aloadN X0 hx (hb hby d4_7) rfl rfl ?_
    exact k_
  obtain ⟨T2, X2, e2, st2⟩ := getF X0 hx hZ hown (host := "") (Or.inl (own_w hw 11 rfl)) Via.refl e0 Fwi (g := (mkF m 8 #[vr a1, vr a2, vi (0 : Int32), vi (1 : Int32), vi (0 : Int32), .unset, .unset] [(.ref a1), (.int (0 : Int32))])) rfl rfl (hb hby d4_8)
  have go3 : Go p e below s₁ F0 T2 (mkF m 11 #[vr a1, vr a2, vi (0 : Int32), vi (1 : Int32), vi (0 : Int32), .unset, .unset] [(.int (2 : Int32)), (.int (0 : Int32))]) := fun t_ k_ => go1 t_ (st2 t_ k_)
  have go4 : Go p e below s₁ F0 T2 (mkF m 23 #[vr a1, vr a2, vi (0 : Int32), vi (1 : Int32), vi (0 : Int32), .unset, .unset] [(.int (0 : Int32)), (.ref a2), (.int (31 : Int32))]) := by
    intro t_ k_
    refine go3 t_ ?_
    refine o_icmpNo X2 hx (hb hby d4_11) (tlt (by decide : (0 : Int32) < (2 : Int32))).2.1 ?_
    refine o_bipush X2 hx (hb hby d4_14) (v := 31) rfl ?_
    refine o_iloadN X2 hx (hb hby d4_16) rfl ?_
    refine o_imulE X2 hx (hb hby d4_17) (v := 31) rfl ?_
    refine o_aloadN X2 hx (hb hby d4_18) rfl rfl ?_
    refine o_iloadN X2 hx (hb hby d4_19) rfl ?_
    refine o_iload X2 hx (hb hby d4_20) rfl ?_
    refine o_iaddE X2 hx (hb hby d4_22) (v := 0) rfl ?_
    exact k_
  obtain ⟨cl5, Ar5, -, Sz5, Nn5, Hs5, -⟩ := id V2
  have hin5 : ¬ ((0 : Int32) < 0 ∨ cl5.slots.size ≤ ((0 : Int32)).toNatClampNeg) := inb_of Sz5 ⟨by decide, by decide⟩
  have hat5 : cl5.slots[((0 : Int32)).toNatClampNeg]? = some (.long x0) := Hs5.at hin5 rfl
  have go6 : Go p e below s₁ F0 T2 (mkF m 24 #[vr a1, vr a2, vi (0 : Int32), vi (1 : Int32), vi (0 : Int32), .unset, .unset] [(.long x0), (.int (31 : Int32))]) := by
    intro t_ k_
    refine go4 t_ ?_
    refine o_laload X2 hx hZ e2 Ar5 hin5 hat5 (hb hby d4_23) ?_
    exact k_
  obtain ⟨_, _, ⟨T7, L7, k7, n7⟩, -, X7, ⟨Lc7, hQ7, l7, y7, z7⟩, st7⟩ := Jvm.LawKit.callS X2 hx (y := y_0) hown (mvT hZ (own_w hw 29 rfl)) (mvT hZ (own_w hw 30 rfl)) (mvT hZ (own_w hw 31 rfl)) (mvT hZ (own_w hw 32 rfl)) (by decide) (backOf (W := 1) (rm5 l Z a0 hw [] x0 h0 n0 Z0 ) hZ (own_w hw 32 rfl) (own_w hw 31 rfl) (by decide) (by decide)) (g := (mkF m 24 #[vr a1, vr a2, vi (0 : Int32), vi (1 : Int32), vi (0 : Int32), .unset, .unset] [(.long x0), (.int (31 : Int32))])) rfl (by rw [hml]; rfl) (argsL := [(.long x0)]) (rest := [(.int (31 : Int32))]) (lenOf pd4_a2_0 rfl) rfl (by show 2 * 0 + _ ≤ _; exact Nat.le_of_eq rfl) (hb hby d4_24) (fun _ _ => ⟨rfl, e2, (by decide : 0 + 0 ≤ _), (by decide : 0 + 0 ≤ _)⟩)
  dsimp only [Pt.U, Pt.locs, Pt.cells, Pt.slots] at X7 l7 y7 z7 st7 hQ7
  subst l7 y7 z7
  obtain ⟨rfl, Nq7, eh7⟩ := hQ7
  have N7 := Fr.app N0 Nq7
  have go8 : Go p e below s₁ F0 T7 (mkF m 27 #[vr a1, vr a2, vi (0 : Int32), vi (1 : Int32), vi (0 : Int32), .unset, .unset] [(.int (f5 x0)), (.int (31 : Int32))]) := fun t_ k_ => go6 t_ (st7 t_ k_)
  have go9 : Go p e below s₁ F0 T7 (mkF m 8 #[vr a1, vr a2, vi (0 : Int32), vi ((31 : Int32) + (f5 x0)), vi (1 : Int32), .unset, .unset] [(.ref a1), (.int (1 : Int32))]) := by
    intro t_ k_
    refine go8 t_ ?_
    refine o_iadd X7 hx (hb hby d4_27) ?_
    refine o_istoreN X7 hx (hb hby d4_28) (L' := #[vr a1, vr a2, vi (0 : Int32), vi ((31 : Int32) + (f5 x0)), vi (0 : Int32), .unset, .unset]) rfl ?_
    refine o_iinc X7 hx (hb hby d4_29) rfl (L' := #[vr a1, vr a2, vi (0 : Int32), vi ((31 : Int32) + (f5 x0)), vi (1 : Int32), .unset, .unset]) rfl ?_
    refine o_goto X7 hx (hb hby d4_32) (pc' := 5) rfl (by decide) ?_
    refine o_iload X7 hx (hb hby d4_5) rfl ?_
    refine o_aloadN X7 hx (hb hby d4_7) rfl rfl ?_
    exact k_
  obtain ⟨T10, X10, e10, st10⟩ := getF X7 hx hZ hown (host := "") (Or.inl (own_w hw 11 rfl)) Via.refl eh7 Fwi (g := (mkF m 8 #[vr a1, vr a2, vi (0 : Int32), vi ((31 : Int32) + (f5 x0)), vi (1 : Int32), .unset, .unset] [(.ref a1), (.int (1 : Int32))])) rfl rfl (hb hby d4_8)
  have go11 : Go p e below s₁ F0 T10 (mkF m 11 #[vr a1, vr a2, vi (0 : Int32), vi ((31 : Int32) + (f5 x0)), vi (1 : Int32), .unset, .unset] [(.int (2 : Int32)), (.int (1 : Int32))]) := fun t_ k_ => go9 t_ (st10 t_ k_)
  have go12 : Go p e below s₁ F0 T10 (mkF m 23 #[vr a1, vr a2, vi (0 : Int32), vi ((31 : Int32) + (f5 x0)), vi (1 : Int32), .unset, .unset] [(.int (1 : Int32)), (.ref a2), (.int ((31 : Int32) * ((31 : Int32) + (f5 x0))))]) := by
    intro t_ k_
    refine go11 t_ ?_
    refine o_icmpNo X10 hx (hb hby d4_11) (tlt (by decide : (1 : Int32) < (2 : Int32))).2.1 ?_
    refine o_bipush X10 hx (hb hby d4_14) (v := 31) rfl ?_
    refine o_iloadN X10 hx (hb hby d4_16) rfl ?_
    refine o_imul X10 hx (hb hby d4_17) ?_
    refine o_aloadN X10 hx (hb hby d4_18) rfl rfl ?_
    refine o_iloadN X10 hx (hb hby d4_19) rfl ?_
    refine o_iload X10 hx (hb hby d4_20) rfl ?_
    refine o_iaddE X10 hx (hb hby d4_22) (v := 1) rfl ?_
    exact k_
  obtain ⟨cl13, Ar13, -, Sz13, Nn13, Hs13, -⟩ := id V2
  have hin13 : ¬ ((1 : Int32) < 0 ∨ cl13.slots.size ≤ ((1 : Int32)).toNatClampNeg) := inb_of Sz13 ⟨by decide, by decide⟩
  have hat13 : cl13.slots[((1 : Int32)).toNatClampNeg]? = some (.long x1) := Hs13.at hin13 rfl
  have go14 : Go p e below s₁ F0 T10 (mkF m 24 #[vr a1, vr a2, vi (0 : Int32), vi ((31 : Int32) + (f5 x0)), vi (1 : Int32), .unset, .unset] [(.long x1), (.int ((31 : Int32) * ((31 : Int32) + (f5 x0))))]) := by
    intro t_ k_
    refine go12 t_ ?_
    refine o_laload X10 hx hZ e10 Ar13 hin13 hat13 (hb hby d4_23) ?_
    exact k_
  obtain ⟨_, _, ⟨T15, L15, k15, n15⟩, -, X15, ⟨Lc15, hQ15, l15, y15, z15⟩, st15⟩ := Jvm.LawKit.callS X10 hx (y := y_0) hown (mvT hZ (own_w hw 29 rfl)) (mvT hZ (own_w hw 30 rfl)) (mvT hZ (own_w hw 31 rfl)) (mvT hZ (own_w hw 32 rfl)) (by decide) (backOf (W := 1) (rm5 l Z a0 hw [] x1 h0 n0 Z0 ) hZ (own_w hw 32 rfl) (own_w hw 31 rfl) (by decide) (by decide)) (g := (mkF m 24 #[vr a1, vr a2, vi (0 : Int32), vi ((31 : Int32) + (f5 x0)), vi (1 : Int32), .unset, .unset] [(.long x1), (.int ((31 : Int32) * ((31 : Int32) + (f5 x0))))])) rfl (by rw [hml]; rfl) (argsL := [(.long x1)]) (rest := [(.int ((31 : Int32) * ((31 : Int32) + (f5 x0))))]) (lenOf pd4_a2_0 rfl) rfl (by show 2 * 0 + _ ≤ _; exact Nat.le_of_eq rfl) (hb hby d4_24) (fun _ _ => ⟨rfl, e10, (by decide : 0 + 0 ≤ _), (by decide : 0 + 0 ≤ _)⟩)
  dsimp only [Pt.U, Pt.locs, Pt.cells, Pt.slots] at X15 l15 y15 z15 st15 hQ15
  subst l15 y15 z15
  obtain ⟨rfl, Nq15, eh15⟩ := hQ15
  have N15 := Fr.app N7 Nq15
  have go16 : Go p e below s₁ F0 T15 (mkF m 27 #[vr a1, vr a2, vi (0 : Int32), vi ((31 : Int32) + (f5 x0)), vi (1 : Int32), .unset, .unset] [(.int (f5 x1)), (.int ((31 : Int32) * ((31 : Int32) + (f5 x0))))]) := fun t_ k_ => go14 t_ (st15 t_ k_)
  have go17 : Go p e below s₁ F0 T15 (mkF m 8 #[vr a1, vr a2, vi (0 : Int32), vi (((31 : Int32) * ((31 : Int32) + (f5 x0))) + (f5 x1)), vi (2 : Int32), .unset, .unset] [(.ref a1), (.int (2 : Int32))]) := by
    intro t_ k_
    refine go16 t_ ?_
    refine o_iadd X15 hx (hb hby d4_27) ?_
    refine o_istoreN X15 hx (hb hby d4_28) (L' := #[vr a1, vr a2, vi (0 : Int32), vi (((31 : Int32) * ((31 : Int32) + (f5 x0))) + (f5 x1)), vi (1 : Int32), .unset, .unset]) rfl ?_
    refine o_iinc X15 hx (hb hby d4_29) rfl (L' := #[vr a1, vr a2, vi (0 : Int32), vi (((31 : Int32) * ((31 : Int32) + (f5 x0))) + (f5 x1)), vi (2 : Int32), .unset, .unset]) rfl ?_
    refine o_goto X15 hx (hb hby d4_32) (pc' := 5) rfl (by decide) ?_
    refine o_iload X15 hx (hb hby d4_5) rfl ?_
    refine o_aloadN X15 hx (hb hby d4_7) rfl rfl ?_
    exact k_
  obtain ⟨T18, X18, e18, st18⟩ := getF X15 hx hZ hown (host := "") (Or.inl (own_w hw 11 rfl)) Via.refl eh15 Fwi (g := (mkF m 8 #[vr a1, vr a2, vi (0 : Int32), vi (((31 : Int32) * ((31 : Int32) + (f5 x0))) + (f5 x1)), vi (2 : Int32), .unset, .unset] [(.ref a1), (.int (2 : Int32))])) rfl rfl (hb hby d4_8)
  have go19 : Go p e below s₁ F0 T18 (mkF m 11 #[vr a1, vr a2, vi (0 : Int32), vi (((31 : Int32) * ((31 : Int32) + (f5 x0))) + (f5 x1)), vi (2 : Int32), .unset, .unset] [(.int (2 : Int32)), (.int (2 : Int32))]) := fun t_ k_ => go17 t_ (st18 t_ k_)
  have go20 : Go p e below s₁ F0 T18 (mkF m 35 #[vr a1, vr a2, vi (0 : Int32), vi (((31 : Int32) * ((31 : Int32) + (f5 x0))) + (f5 x1)), vi (2 : Int32), .unset, .unset] []) := by
    intro t_ k_
    refine go19 t_ ?_
    refine o_icmpYes X18 hx (hb hby d4_11) (pc' := 35) rfl (by decide) (flt (by decide : ¬ ((2 : Int32) < (2 : Int32)))).2.1 ?_
    exact k_
  obtain ⟨hs, h_hs⟩ : ∃ z : Int32, z = (((31 : Int32) * ((31 : Int32) + (f5 x0))) + (f5 x1)) := ⟨_, rfl⟩
  have go21 : Go p e below s₁ F0 T18 (mkF m 35 #[vr a1, vr a2, vi (0 : Int32), vi hs, vi (2 : Int32), .unset, .unset] []) := by rw [h_hs]; exact go20
  have go22 : Go p e below s₁ F0 T18 (mkF m 36 #[vr a1, vr a2, vi (0 : Int32), vi hs, vi (2 : Int32), .unset, .unset] [(.ref a1)]) := by
    intro t_ k_
    refine go21 t_ ?_
    refine o_aloadN X18 hx (hb hby d4_35) rfl rfl ?_
    exact k_
  obtain ⟨T23, X23, e23, st23⟩ := getF X18 hx hZ hown (host := "") (Or.inl (own_w hw 18 rfl)) Via.refl e18 Fsl (g := (mkF m 36 #[vr a1, vr a2, vi (0 : Int32), vi hs, vi (2 : Int32), .unset, .unset] [(.ref a1)])) rfl rfl (hb hby d4_36)
  have go24 : Go p e below s₁ F0 T23 (mkF m 39 #[vr a1, vr a2, vi (0 : Int32), vi hs, vi (2 : Int32), .unset, .unset] [(.ref bs)]) := fun t_ k_ => go22 t_ (st23 t_ k_)
  obtain ⟨cl25, Ar25, -, Sz25, Nn25, -, -⟩ := id Vs
  have go26 : Go p e below s₁ F0 T23 (mkF m 47 #[vr a1, vr a2, vi (0 : Int32), vi hs, vi (31 : Int32), .unset, .unset] [(.int (31 : Int32)), (.int hs)]) := by
    intro t_ k_
    refine go24 t_ ?_
    refine o_len X23 hx hZ e23 Ar25 Sz25 Nn25 (hb hby d4_39) ?_
    refine o_iconst X23 hx (hb hby d4_40) (v := 1) rfl ?_
    refine o_isubE X23 hx (hb hby d4_41) (v := 31) rfl ?_
    refine o_istore X23 hx (hb hby d4_42) (L' := #[vr a1, vr a2, vi (0 : Int32), vi hs, vi (31 : Int32), .unset, .unset]) rfl ?_
    refine o_iloadN X23 hx (hb hby d4_44) rfl ?_
    refine o_iload X23 hx (hb hby d4_45) rfl ?_
    exact k_
  obtain ⟨_, _, ⟨T27, L27, k27, n27⟩, -, X27, ⟨Lc27, hQ27, l27, y27, z27⟩, st27⟩ := Jvm.LawKit.callS X23 hx (y := y_1) hown (mvT hZ (own_w hw 33 rfl)) (mvT hZ (own_w hw 34 rfl)) (mvT hZ (own_w hw 4 rfl)) (mvT hZ (own_w hw 35 rfl)) (by decide) (backOf (W := 0) (rm6 l Z a0 hw [] hs (31 : Int32) h0 n0 Z0 ) hZ (own_w hw 35 rfl) (own_w hw 4 rfl) (by decide) (by decide)) (g := (mkF m 47 #[vr a1, vr a2, vi (0 : Int32), vi hs, vi (31 : Int32), .unset, .unset] [(.int (31 : Int32)), (.int hs)])) rfl (by rw [hml]; rfl) (argsL := [(.int hs), (.int (31 : Int32))]) (rest := []) (lenOf pd4_a2_1 rfl) rfl (by show 2 * 0 + _ ≤ _; exact Nat.le_of_eq rfl) (hb hby d4_47) (fun _ _ => ⟨rfl, e23, (by decide : 0 + 0 ≤ _), (by decide : 0 + 0 ≤ _)⟩)
  dsimp only [Pt.U, Pt.locs, Pt.cells, Pt.slots] at X27 l27 y27 z27 st27 hQ27
  subst l27 y27 z27
  obtain ⟨rfl, Nq27, eh27⟩ := hQ27
  have N27 := Fr.app N15 Nq27
  have go28 : Go p e below s₁ F0 T27 (mkF m 50 #[vr a1, vr a2, vi (0 : Int32), vi hs, vi (31 : Int32), .unset, .unset] [(.int (f6 hs (31 : Int32)))]) := fun t_ k_ => go26 t_ (st27 t_ k_)
  have go29 : Go p e below s₁ F0 T27 (mkF m 52 #[vr a1, vr a2, vi (0 : Int32), vi hs, vi (31 : Int32), vi (f6 hs (31 : Int32)), .unset] []) := by
    intro t_ k_
    refine go28 t_ ?_
    refine o_istore X27 hx (hb hby d4_50) (L' := #[vr a1, vr a2, vi (0 : Int32), vi hs, vi (31 : Int32), vi (f6 hs (31 : Int32)), .unset]) rfl ?_
    exact k_
  obtain ⟨sl, h_sl⟩ : ∃ z : Int32, z = (f6 hs (31 : Int32)) := ⟨_, rfl⟩
  have go30 : Go p e below s₁ F0 T27 (mkF m 52 #[vr a1, vr a2, vi (0 : Int32), vi hs, vi (31 : Int32), vi sl, .unset] []) := by rw [h_sl]; exact go29
  have go31 : Go p e below s₁ F0 T27 (mkF m 53 #[vr a1, vr a2, vi (0 : Int32), vi hs, vi (31 : Int32), vi sl, .unset] [(.ref a1)]) := by
    intro t_ k_
    refine go30 t_ ?_
    refine o_aloadN X27 hx (hb hby d4_52) rfl rfl ?_
    exact k_
  obtain ⟨T32, X32, e32, st32⟩ := getF X27 hx hZ hown (host := "") (Or.inl (own_w hw 18 rfl)) Via.refl eh27 Fsl (g := (mkF m 53 #[vr a1, vr a2, vi (0 : Int32), vi hs, vi (31 : Int32), vi sl, .unset] [(.ref a1)])) rfl rfl (hb hby d4_53)
  have go33 : Go p e below s₁ F0 T32 (mkF m 56 #[vr a1, vr a2, vi (0 : Int32), vi hs, vi (31 : Int32), vi sl, .unset] [(.ref bs)]) := fun t_ k_ => go31 t_ (st32 t_ k_)
  have go34 : Go p e below s₁ F0 T32 (mkF m 58 #[vr a1, vr a2, vi (0 : Int32), vi hs, vi (31 : Int32), vi sl, .unset] [(.int sl), (.ref bs)]) := by
    intro t_ k_
    refine go33 t_ ?_
    refine o_iload X32 hx (hb hby d4_56) rfl ?_
    exact k_
  obtain ⟨cl35, Ar35, -, Sz35, Nn35, Hs35, -⟩ := id Vs
  have hin35 : ¬ (sl < 0 ∨ cl35.slots.size ≤ (sl).toNatClampNeg) := inb_of Sz35 (own_in h_sl)
  have hat35 : cl35.slots[(sl).toNatClampNeg]? = some (.int (0 : Int32)) := Hs35.at hin35 (own_z _)
  have go36 : Go p e below s₁ F0 T32 (mkF m 112 #[vr a1, vr a2, vi (0 : Int32), vi hs, vi (31 : Int32), vi sl, .unset] [(.ref a1), (.ref a1)]) := by
    intro t_ k_
    refine go34 t_ ?_
    refine o_iaload X32 hx hZ e32 Ar35 hin35 hat35 (hb hby d4_58) ?_
    refine o_ifYes X32 hx (hb hby d4_59) (pc' := 110) rfl (by decide) ((if0 _ _).trans (teq (by decide : (0 : Int32) = (0 : Int32))).1) ?_
    refine o_aloadN X32 hx (hb hby d4_110) rfl rfl ?_
    refine o_dup X32 hx (hb hby d4_111) rfl ?_
    exact k_
  obtain ⟨T37, X37, e37, st37⟩ := getF X32 hx hZ hown (host := "") (Or.inl (own_w hw 37 rfl)) Via.refl e32 Fco (g := (mkF m 112 #[vr a1, vr a2, vi (0 : Int32), vi hs, vi (31 : Int32), vi sl, .unset] [(.ref a1), (.ref a1)])) rfl rfl (hb hby d4_112)
  have go38 : Go p e below s₁ F0 T37 (mkF m 115 #[vr a1, vr a2, vi (0 : Int32), vi hs, vi (31 : Int32), vi sl, .unset] [(.int (0 : Int32)), (.ref a1)]) := fun t_ k_ => go36 t_ (st37 t_ k_)
  have go39 : Go p e below s₁ F0 T37 (mkF m 118 #[vr a1, vr a2, vi (0 : Int32), vi hs, vi (31 : Int32), vi sl, .unset] [(.int (1 : Int32)), (.ref a1), (.int (0 : Int32))]) := by
    intro t_ k_
    refine go38 t_ ?_
    refine o_dupX1 X37 hx (hb hby d4_115) rfl rfl ?_
    refine o_iconst X37 hx (hb hby d4_116) (v := 1) rfl ?_
    refine o_iaddE X37 hx (hb hby d4_117) (v := 1) rfl ?_
    exact k_
  obtain ⟨T40, h40, X40, e40, W40, st40⟩ := putF X37 hx hZ hown (host := "") (Or.inl (own_w hw 37 rfl)) Via.refl e37 Fco E0 (Or.inl (own_w hw 38 rfl)) (own_w hw 3 rfl) (ty := .int) (by decide) rfl rfl (g := (mkF m 118 #[vr a1, vr a2, vi (0 : Int32), vi hs, vi (31 : Int32), vi sl, .unset] [(.int (1 : Int32)), (.ref a1), (.int (0 : Int32))])) rfl rfl (hb hby d4_118)
  have Fw40 : Fld Z h40 a1 c_0 "count" "I" (.int (1 : Int32)) := Fld.same W40 Fco
  have K41 : Keep h0 h40 [a1, bw, bh, bs] := K0.wr W40 (Or.inl (List.mem_of_getElem? (i := 0) rfl))
  have Z41 : n0 ≤ h40.size := Nat.le_trans Z0 (Keep.of_wr W40).1
  have N40 := Fr.snoc X40 N27 g1
  have go42 : Go p e below s₁ F0 T40 (mkF m 121 #[vr a1, vr a2, vi (0 : Int32), vi hs, vi (31 : Int32), vi sl, .unset] [(.int (0 : Int32))]) := fun t_ k_ => go39 t_ (st40 t_ k_)
  have F43 : Fld Z h40 a1 c_0 "hashes" "[I" (.ref bh) := (Fha.other W40 (Or.inr (slot_ne (Or.inl (own_w hw 17 rfl)) (Or.inl (own_w hw 38 rfl)) (by decide) (t := (.array .int)) (t' := .int) (by decide) (by decide))))
  have go44 : Go p e below s₁ F0 T40 (mkF m 126 #[vr a1, vr a2, vi (0 : Int32), vi hs, vi (31 : Int32), vi sl, vi (0 : Int32)] [(.ref a1), (.int (0 : Int32))]) := by
    intro t_ k_
    refine go42 t_ ?_
    refine o_istore X40 hx (hb hby d4_121) (L' := #[vr a1, vr a2, vi (0 : Int32), vi hs, vi (31 : Int32), vi sl, vi (0 : Int32)]) rfl ?_
    refine o_iload X40 hx (hb hby d4_123) rfl ?_
    refine o_aloadN X40 hx (hb hby d4_125) rfl rfl ?_
    exact k_
  obtain ⟨T45, X45, e45, st45⟩ := getF X40 hx hZ hown (host := "") (Or.inl (own_w hw 16 rfl)) Via.refl e40 F43 (g := (mkF m 126 #[vr a1, vr a2, vi (0 : Int32), vi hs, vi (31 : Int32), vi sl, vi (0 : Int32)] [(.ref a1), (.int (0 : Int32))])) rfl rfl (hb hby d4_126)
  have go46 : Go p e below s₁ F0 T45 (mkF m 129 #[vr a1, vr a2, vi (0 : Int32), vi hs, vi (31 : Int32), vi sl, vi (0 : Int32)] [(.ref bh), (.int (0 : Int32))]) := fun t_ k_ => go44 t_ (st45 t_ k_)
  have F47 : Arv Z h40 bh kh .int (16 : Int32) (own_zi 16) (.int (0 : Int32)) := (Vh.other W40 (Ne.symm nah))
  obtain ⟨cl48, Ar48, -, Sz48, Nn48, -, -⟩ := id F47
  have F49 : Fld Z h40 a1 c_0 "words" "[J" (.ref bw) := (Fwo.other W40 (Or.inr (slot_ne (Or.inl (own_w hw 14 rfl)) (Or.inl (own_w hw 38 rfl)) (by decide) (t := (.array .long)) (t' := .int) (by decide) (by decide))))
  have go50 : Go p e below s₁ F0 T45 (mkF m 171 #[vr a1, vr a2, vi (0 : Int32), vi hs, vi (31 : Int32), vi sl, vi (0 : Int32)] [(.ref a1), (.int (0 : Int32)), (.ref a2)]) := by
    intro t_ k_
    refine go46 t_ ?_
    refine o_len X45 hx hZ e45 Ar48 Sz48 Nn48 (hb hby d4_129) ?_
    refine o_icmpYes X45 hx (hb hby d4_130) (pc' := 168) rfl (by decide) (feq (by decide : ¬ ((0 : Int32) = (16 : Int32)))).2 ?_
    refine o_aloadN X45 hx (hb hby d4_168) rfl rfl ?_
    refine o_iloadN X45 hx (hb hby d4_169) rfl ?_
    refine o_aloadN X45 hx (hb hby d4_170) rfl rfl ?_
    exact k_
  obtain ⟨T51, X51, e51, st51⟩ := getF X45 hx hZ hown (host := "") (Or.inl (own_w hw 13 rfl)) Via.refl e45 F49 (g := (mkF m 171 #[vr a1, vr a2, vi (0 : Int32), vi hs, vi (31 : Int32), vi sl, vi (0 : Int32)] [(.ref a1), (.int (0 : Int32)), (.ref a2)])) rfl rfl (hb hby d4_171)
  have go52 : Go p e below s₁ F0 T51 (mkF m 174 #[vr a1, vr a2, vi (0 : Int32), vi hs, vi (31 : Int32), vi sl, vi (0 : Int32)] [(.ref bw), (.int (0 : Int32)), (.ref a2)]) := fun t_ k_ => go50 t_ (st51 t_ k_)
  have F53 : Fld Z h40 a1 c_0 "width" "I" (.int (2 : Int32)) := (Fwi.other W40 (Or.inr (slot_ne (Or.inr (own_w hw 12 rfl)) (Or.inl (own_w hw 38 rfl)) (by decide) (t := .int) (t' := .int) (by decide) (by decide))))
  have go54 : Go p e below s₁ F0 T51 (mkF m 177 #[vr a1, vr a2, vi (0 : Int32), vi hs, vi (31 : Int32), vi sl, vi (0 : Int32)] [(.ref a1), (.int (0 : Int32)), (.ref bw), (.int (0 : Int32)), (.ref a2)]) := by
    intro t_ k_
    refine go52 t_ ?_
    refine o_iload X51 hx (hb hby d4_174) rfl ?_
    refine o_aloadN X51 hx (hb hby d4_176) rfl rfl ?_
    exact k_
  obtain ⟨T55, X55, e55, st55⟩ := getF X51 hx hZ hown (host := "") (Or.inl (own_w hw 11 rfl)) Via.refl e51 F53 (g := (mkF m 177 #[vr a1, vr a2, vi (0 : Int32), vi hs, vi (31 : Int32), vi sl, vi (0 : Int32)] [(.ref a1), (.int (0 : Int32)), (.ref bw), (.int (0 : Int32)), (.ref a2)])) rfl rfl (hb hby d4_177)
  have go56 : Go p e below s₁ F0 T55 (mkF m 180 #[vr a1, vr a2, vi (0 : Int32), vi hs, vi (31 : Int32), vi sl, vi (0 : Int32)] [(.int (2 : Int32)), (.int (0 : Int32)), (.ref bw), (.int (0 : Int32)), (.ref a2)]) := fun t_ k_ => go54 t_ (st55 t_ k_)
  have go57 : Go p e below s₁ F0 T55 (mkF m 182 #[vr a1, vr a2, vi (0 : Int32), vi hs, vi (31 : Int32), vi sl, vi (0 : Int32)] [(.ref a1), (.int (0 : Int32)), (.ref bw), (.int (0 : Int32)), (.ref a2)]) := by
    intro t_ k_
    refine go56 t_ ?_
    refine o_imulE X55 hx (hb hby d4_180) (v := 0) rfl ?_
    refine o_aloadN X55 hx (hb hby d4_181) rfl rfl ?_
    exact k_
  obtain ⟨T58, X58, e58, st58⟩ := getF X55 hx hZ hown (host := "") (Or.inl (own_w hw 11 rfl)) Via.refl e55 F53 (g := (mkF m 182 #[vr a1, vr a2, vi (0 : Int32), vi hs, vi (31 : Int32), vi sl, vi (0 : Int32)] [(.ref a1), (.int (0 : Int32)), (.ref bw), (.int (0 : Int32)), (.ref a2)])) rfl rfl (hb hby d4_182)
  have go59 : Go p e below s₁ F0 T58 (mkF m 185 #[vr a1, vr a2, vi (0 : Int32), vi hs, vi (31 : Int32), vi sl, vi (0 : Int32)] [(.int (2 : Int32)), (.int (0 : Int32)), (.ref bw), (.int (0 : Int32)), (.ref a2)]) := fun t_ k_ => go57 t_ (st58 t_ k_)
  have F60 : Arv Z h40 a2 k2 .long (2 : Int32) [(.long x0), (.long x1)] (.long (0 : Int64)) := (V2.other W40 (Ne.symm n12))
  have F61 : Arv Z h40 bw kw .long (32 : Int32) (own_zl 32) (.long (0 : Int64)) := (Vw.other W40 (Ne.symm naw))
  obtain ⟨T62, h62, L62, X62, e62, N62, Kc62, Vc62, st62⟩ := cpA X58 hx hZ hown (own_w hw 39 rfl) (own_w hw 42 rfl) (own_w hw 40 rfl) (own_w hw 41 rfl) e58 F60 F61 (Or.inl ⟨rfl, rfl⟩) (by decide) (by decide) (by decide) (by decide) (by decide) (us := [(.long x0), (.long x1)]) rfl (Nat.le_of_ble_eq_true rfl) N40 gw (g := (mkF m 185 #[vr a1, vr a2, vi (0 : Int32), vi hs, vi (31 : Int32), vi sl, vi (0 : Int32)] [(.int (2 : Int32)), (.int (0 : Int32)), (.ref bw), (.int (0 : Int32)), (.ref a2)])) rfl (by rw [hml]; rfl) rfl (hb hby d4_185) (by decide) (W := 0) (by show 2 * 0 + _ ≤ _; exact Nat.le_of_eq rfl) (by decide)
  have V62 : Arv Z h62 bw kw .long (32 : Int32) ((.long x0) :: (.long x1) :: own_zl 30) (.long (0 : Int64)) := Vc62
  have K63 : Keep h0 h62 [a1, bw, bh, bs] := K41.trans Kc62 (allS (Or.inl (List.mem_of_getElem? (i := 1) rfl)) all0)
  have Z63 : n0 ≤ h62.size := Nat.le_trans Z41 Kc62.1
  have go64 : Go p e below s₁ F0 T62 (mkF m 188 #[vr a1, vr a2, vi (0 : Int32), vi hs, vi (31 : Int32), vi sl, vi (0 : Int32)] []) := fun t_ k_ => go59 t_ (st62 t_ k_)
  have F65 : Fld Z h62 a1 c_0 "hashes" "[I" (.ref bh) := (F43.keep Kc62 (ninS naw nin0))
  have go66 : Go p e below s₁ F0 T62 (mkF m 189 #[vr a1, vr a2, vi (0 : Int32), vi hs, vi (31 : Int32), vi sl, vi (0 : Int32)] [(.ref a1)]) := by
    intro t_ k_
    refine go64 t_ ?_
    refine o_aloadN X62 hx (hb hby d4_188) rfl rfl ?_
    exact k_
  obtain ⟨T67, X67, e67, st67⟩ := getF X62 hx hZ hown (host := "") (Or.inl (own_w hw 16 rfl)) Via.refl e62 F65 (g := (mkF m 189 #[vr a1, vr a2, vi (0 : Int32), vi hs, vi (31 : Int32), vi sl, vi (0 : Int32)] [(.ref a1)])) rfl rfl (hb hby d4_189)
  have go68 : Go p e below s₁ F0 T67 (mkF m 192 #[vr a1, vr a2, vi (0 : Int32), vi hs, vi (31 : Int32), vi sl, vi (0 : Int32)] [(.ref bh)]) := fun t_ k_ => go66 t_ (st67 t_ k_)
  have F69 : Arv Z h62 bh kh .int (16 : Int32) (own_zi 16) (.int (0 : Int32)) := (F47.keep Kc62 (ninS (Ne.symm nwh) nin0))
  have go70 : Go p e below s₁ F0 T67 (mkF m 195 #[vr a1, vr a2, vi (0 : Int32), vi hs, vi (31 : Int32), vi sl, vi (0 : Int32)] [(.int hs), (.int (0 : Int32)), (.ref bh)]) := by
    intro t_ k_
    refine go68 t_ ?_
    refine o_iload X67 hx (hb hby d4_192) rfl ?_
    refine o_iloadN X67 hx (hb hby d4_194) rfl ?_
    exact k_
  obtain ⟨cl71, Ar71, q71, Sz71, Nn71, Hs71, G71⟩ := id F69
  have hin71 : ¬ ((0 : Int32) < 0 ∨ cl71.slots.size ≤ ((0 : Int32)).toNatClampNeg) := inb_of Sz71 ⟨by decide, by decide⟩
  obtain ⟨T71, h71, X71, e71, W71, st71⟩ := stI X67 hx hZ e67 Ar71 (j := (0 : Int32)) hin71 (g := (mkF m 195 #[vr a1, vr a2, vi (0 : Int32), vi hs, vi (31 : Int32), vi sl, vi (0 : Int32)] [(.int hs), (.int (0 : Int32)), (.ref bh)])) rfl rfl (hb hby d4_195)
  have V71 : Arv Z h71 bh kh .int (16 : Int32) ((.int hs) :: own_zi 15) (.int (0 : Int32)) := Arv.set Ar71 q71 Sz71 Nn71 Hs71 G71 rfl W71 0 rfl (Nat.le_of_ble_eq_true rfl)
  have K72 : Keep h0 h71 [a1, bw, bh, bs] := K63.wr W71 (Or.inl (List.mem_of_getElem? (i := 2) rfl))
  have Z72 : n0 ≤ h71.size := Nat.le_trans Z63 (Keep.of_wr W71).1
  have N71 := Fr.snoc X71 N62 gh
  have go73 : Go p e below s₁ F0 T71 (mkF m 196 #[vr a1, vr a2, vi (0 : Int32), vi hs, vi (31 : Int32), vi sl, vi (0 : Int32)] []) := fun t_ k_ => go70 t_ (st71 t_ k_)
  have F74 : Fld Z h71 a1 c_0 "slots" "[I" (.ref bs) := (((Fsl.other W40 (Or.inr (slot_ne (Or.inl (own_w hw 19 rfl)) (Or.inl (own_w hw 38 rfl)) (by decide) (t := (.array .int)) (t' := .int) (by decide) (by decide)))).keep Kc62 (ninS naw nin0)).other W71 (Or.inl nah))
  have go75 : Go p e below s₁ F0 T71 (mkF m 197 #[vr a1, vr a2, vi (0 : Int32), vi hs, vi (31 : Int32), vi sl, vi (0 : Int32)] [(.ref a1)]) := by
    intro t_ k_
    refine go73 t_ ?_
    refine o_aloadN X71 hx (hb hby d4_196) rfl rfl ?_
    exact k_
  obtain ⟨T76, X76, e76, st76⟩ := getF X71 hx hZ hown (host := "") (Or.inl (own_w hw 18 rfl)) Via.refl e71 F74 (g := (mkF m 197 #[vr a1, vr a2, vi (0 : Int32), vi hs, vi (31 : Int32), vi sl, vi (0 : Int32)] [(.ref a1)])) rfl rfl (hb hby d4_197)
  have go77 : Go p e below s₁ F0 T76 (mkF m 200 #[vr a1, vr a2, vi (0 : Int32), vi hs, vi (31 : Int32), vi sl, vi (0 : Int32)] [(.ref bs)]) := fun t_ k_ => go75 t_ (st76 t_ k_)
  have F78 : Arv Z h71 bs ks .int (32 : Int32) (own_zi 32) (.int (0 : Int32)) := (((Vs.other W40 (Ne.symm nas)).keep Kc62 (ninS (Ne.symm nws) nin0)).other W71 (Ne.symm nhs))
  have go79 : Go p e below s₁ F0 T76 (mkF m 206 #[vr a1, vr a2, vi (0 : Int32), vi hs, vi (31 : Int32), vi sl, vi (0 : Int32)] [(.int (1 : Int32)), (.int sl), (.ref bs)]) := by
    intro t_ k_
    refine go77 t_ ?_
    refine o_iload X76 hx (hb hby d4_200) rfl ?_
    refine o_iload X76 hx (hb hby d4_202) rfl ?_
    refine o_iconst X76 hx (hb hby d4_204) (v := 1) rfl ?_
    refine o_iaddE X76 hx (hb hby d4_205) (v := 1) rfl ?_
    exact k_
  obtain ⟨cl80, Ar80, q80, Sz80, Nn80, Hs80, G80⟩ := id F78
  have hin80 : ¬ (sl < 0 ∨ cl80.slots.size ≤ (sl).toNatClampNeg) := inb_of Sz80 (own_in h_sl)
  obtain ⟨T80, h80, X80, e80, W80, st80⟩ := stI X76 hx hZ e76 Ar80 (j := sl) hin80 (g := (mkF m 206 #[vr a1, vr a2, vi (0 : Int32), vi hs, vi (31 : Int32), vi sl, vi (0 : Int32)] [(.int (1 : Int32)), (.int sl), (.ref bs)])) rfl rfl (hb hby d4_206)
  have V80 : Arv Z h80 bs ks .int (32 : Int32) (own_sl sl) (.int (0 : Int32)) := Arv.set Ar80 q80 Sz80 Nn80 Hs80 G80 rfl W80 sl.toNatClampNeg rfl (own_lz h_sl)
  have K81 : Keep h0 h80 [a1, bw, bh, bs] := K72.wr W80 (Or.inl (List.mem_of_getElem? (i := 3) rfl))
  have Z81 : n0 ≤ h80.size := Nat.le_trans Z72 (Keep.of_wr W80).1
  have N80 := Fr.snoc X80 N71 gs
  have go82 : Go p e below s₁ F0 T80 (mkF m 207 #[vr a1, vr a2, vi (0 : Int32), vi hs, vi (31 : Int32), vi sl, vi (0 : Int32)] []) := fun t_ k_ => go79 t_ (st80 t_ k_)
  have F83 : Fld Z h80 a1 c_0 "count" "I" (.int (1 : Int32)) := (((Fw40.keep Kc62 (ninS naw nin0)).other W71 (Or.inl nah)).other W80 (Or.inl nas))
  have go84 : Go p e below s₁ F0 T80 (mkF m 209 #[vr a1, vr a2, vi (0 : Int32), vi hs, vi (31 : Int32), vi sl, vi (0 : Int32)] [(.ref a1), (.int (2 : Int32))]) := by
    intro t_ k_
    refine go82 t_ ?_
    refine o_iconst X80 hx (hb hby d4_207) (v := 2) rfl ?_
    refine o_aloadN X80 hx (hb hby d4_208) rfl rfl ?_
    exact k_
  obtain ⟨T85, X85, e85, st85⟩ := getF X80 hx hZ hown (host := "") (Or.inl (own_w hw 37 rfl)) Via.refl e80 F83 (g := (mkF m 209 #[vr a1, vr a2, vi (0 : Int32), vi hs, vi (31 : Int32), vi sl, vi (0 : Int32)] [(.ref a1), (.int (2 : Int32))])) rfl rfl (hb hby d4_209)
  have go86 : Go p e below s₁ F0 T85 (mkF m 212 #[vr a1, vr a2, vi (0 : Int32), vi hs, vi (31 : Int32), vi sl, vi (0 : Int32)] [(.int (1 : Int32)), (.int (2 : Int32))]) := fun t_ k_ => go84 t_ (st85 t_ k_)
  have F87 : Fld Z h80 a1 c_0 "slots" "[I" (.ref bs) := (F74.other W80 (Or.inl nas))
  have go88 : Go p e below s₁ F0 T85 (mkF m 214 #[vr a1, vr a2, vi (0 : Int32), vi hs, vi (31 : Int32), vi sl, vi (0 : Int32)] [(.ref a1), (.int (2 : Int32))]) := by
    intro t_ k_
    refine go86 t_ ?_
    refine o_imulE X85 hx (hb hby d4_212) (v := 2) rfl ?_
    refine o_aloadN X85 hx (hb hby d4_213) rfl rfl ?_
    exact k_
  obtain ⟨T89, X89, e89, st89⟩ := getF X85 hx hZ hown (host := "") (Or.inl (own_w hw 18 rfl)) Via.refl e85 F87 (g := (mkF m 214 #[vr a1, vr a2, vi (0 : Int32), vi hs, vi (31 : Int32), vi sl, vi (0 : Int32)] [(.ref a1), (.int (2 : Int32))])) rfl rfl (hb hby d4_214)
  have go90 : Go p e below s₁ F0 T89 (mkF m 217 #[vr a1, vr a2, vi (0 : Int32), vi hs, vi (31 : Int32), vi sl, vi (0 : Int32)] [(.ref bs), (.int (2 : Int32))]) := fun t_ k_ => go88 t_ (st89 t_ k_)
  obtain ⟨cl91, Ar91, -, Sz91, Nn91, -, -⟩ := id V80
  have go92 : Go p e below s₁ F0 T89 (mkF m 227 #[vr a1, vr a2, vi (0 : Int32), vi hs, vi (31 : Int32), vi sl, vi (0 : Int32)] [(.int (0 : Int32))]) := by
    intro t_ k_
    refine go90 t_ ?_
    refine o_len X89 hx hZ e89 Ar91 Sz91 Nn91 (hb hby d4_217) ?_
    refine o_icmpYes X89 hx (hb hby d4_218) (pc' := 225) rfl (by decide) (flt (by decide : ¬ ((32 : Int32) < (2 : Int32)))).2.2.2 ?_
    refine o_iload X89 hx (hb hby d4_225) rfl ?_
    exact k_
  obtain ⟨fs, hr, hrun, hended, hW, hsame⟩ := X89.leave (v := some (.int (0 : Int32))) (fun h => by rw [Bd.returns] at h; cases h)
  refine ⟨_, _, pre0 _ (go92 _ ?_), hrun, hended, _, _, rfl, ?_, ⟨_, rfl⟩, hW, hsame.mono (by decide) (by decide)⟩
  · skip
    exact retI X89 hx Bd.returns (hb hby d4_227) hr
  · show Q4_a2 Z a1 a2 bw bh bs kw kh ks k2 x0 x1 h0 n0 _ T89.heap _
    rw [e89]
    have F93 : Fld Z h80 a1 c_0 "width" "I" (.int (2 : Int32)) := (((F53.keep Kc62 (ninS naw nin0)).other W71 (Or.inl nah)).other W80 (Or.inl nas))
    have F94 : Fld Z h80 a1 c_0 "words" "[J" (.ref bw) := (((F49.keep Kc62 (ninS naw nin0)).other W71 (Or.inl nah)).other W80 (Or.inl nas))
    have F95 : Fld Z h80 a1 c_0 "hashes" "[I" (.ref bh) := ((F65.other W71 (Or.inl nah)).other W80 (Or.inl nas))
    have F96 : Arv Z h80 bw kw .long (32 : Int32) ((.long x0) :: (.long x1) :: own_zl 30) (.long (0 : Int64)) := ((V62.other W71 nwh).other W80 nws)
    have F97 : Arv Z h80 bh kh .int (16 : Int32) ((.int hs) :: own_zi 15) (.int (0 : Int32)) := (V71.other W80 nhs)
    exact ⟨hs, sl, rfl, N80, K81, F93, F94, F95, F87, F83, F96, F97, V80, h_hs, h_sl⟩

theorem pn_3_a2 : plainName "com/example/grammar_game_solver/grammargamesolver/summary/NumberedSets" = true := by first | (simp [plainName, overriddenIn]; done) | decide +kernel
theorem pd3_a2_0 : parseMethodDescriptor "([JI)I" = some ⟨[(.array .long), .int], some .int⟩ := by decide +kernel
theorem ef_3_a2 (m : MethodId) (x0 : Addr) (x1 : Addr) : entryFrame m #[(.ref x0), (.ref x1)] 2 = mkF m 0 #[vr x0, vr x1] [] := by first | (simp [entryFrame, mkF, argsToLocals, Value.category]; done) | rfl
def Q3_a2 (Z : State) (a1 : Addr) (a2 : Addr) (bw : Addr) (bh : Addr) (bs : Addr) (kw : ClassId) (kh : ClassId) (ks : ClassId) (k2 : ClassId) (x0 : Int64) (x1 : Int64) (h0 : Heap) (n0 : Nat) (v : Option Value) (h : Heap) (L : List Loc) : Prop := ∃ hs : Int32, ∃ sl : Int32, v = some (.int (0 : Int32)) ∧ Fr n0 L ∧ Keep h0 h [a1, bw, bh, bs] ∧ Fld Z h a1 c_0 "width" "I" (.int (2 : Int32)) ∧ Fld Z h a1 c_0 "words" "[J" (.ref bw) ∧ Fld Z h a1 c_0 "hashes" "[I" (.ref bh) ∧ Fld Z h a1 c_0 "slots" "[I" (.ref bs) ∧ Fld Z h a1 c_0 "count" "I" (.int (1 : Int32)) ∧ Arv Z h bw kw .long (32 : Int32) ((.long x0) :: (.long x1) :: own_zl 30) (.long (0 : Int64)) ∧ Arv Z h bh kh .int (16 : Int32) ((.int hs) :: own_zi 15) (.int (0 : Int32)) ∧ Arv Z h bs ks .int (32 : Int32) (own_sl sl) (.int (0 : Int32)) ∧ (hs = (((31 : Int32) * ((31 : Int32) + (f5 x0))) + (f5 x1))) ∧ (sl = (f6 hs (31 : Int32)))
set_option maxRecDepth 65536 in
set_option maxHeartbeats 40000000 in
theorem rm3_a2 (l : Launch) (Z : State) (a0 : Array Value) (hw : ∀ d ∈ tables_1, d.before a0 Z = true) (ws : List Jvm.Cond) (a1 : Addr) (a2 : Addr) (bw : Addr) (bh : Addr) (bs : Addr) (kw : ClassId) (kh : ClassId) (ks : ClassId) (k2 : ClassId) (x0 : Int64) (x1 : Int64) (h0 : Heap) (n0 : Nat) (Z0 : n0 ≤ h0.size) (E0 : Exa Z h0 a1 c_0) (Fwi : Fld Z h0 a1 c_0 "width" "I" (.int (2 : Int32))) (Fwo : Fld Z h0 a1 c_0 "words" "[J" (.ref bw)) (Fha : Fld Z h0 a1 c_0 "hashes" "[I" (.ref bh)) (Fsl : Fld Z h0 a1 c_0 "slots" "[I" (.ref bs)) (Fco : Fld Z h0 a1 c_0 "count" "I" (.int (0 : Int32))) (Vw : Arv Z h0 bw kw .long (32 : Int32) (own_zl 32) (.long (0 : Int64))) (Vh : Arv Z h0 bh kh .int (16 : Int32) (own_zi 16) (.int (0 : Int32))) (Vs : Arv Z h0 bs ks .int (32 : Int32) (own_zi 32) (.int (0 : Int32))) (V2 : Arv Z h0 a2 k2 .long (2 : Int32) [(.long x0), (.long x1)] (.long (0 : Int64))) (g1 : n0 ≤ a1) (gw : n0 ≤ bw) (gh : n0 ≤ bh) (gs : n0 ≤ bs) (naw : a1 ≠ bw) (nah : a1 ≠ bh) (nas : a1 ≠ bs) (n2w : a2 ≠ bw) (n2h : a2 ≠ bh) (n2s : a2 ≠ bs) (n12 : a1 ≠ a2) (nwh : bw ≠ bh) (nws : bw ≠ bs) (nhs : bh ≠ bs) :
    MetFree l y_4 (head1 (Jvm.Cond.code y_4 prog_63_method_4_code 2 (some .int) :: ws) ({ frames := 2, cells := 0, slots := 0, locals := 36 } : Room)) (fun a U => a = #[(.ref a1), (.ref a2)] ∧ Z.Warmed39 U.vm ∧ U.heap = h0) (fun _ _ _ _ _ => True) (fun _ U o U' => ∃ v L, o = .returned v ∧ Q3_a2 Z a1 a2 bw bh bs kw kh ks k2 x0 x1 h0 n0 v U'.heap L ∧ FrameEnd U o U' L ({ frames := 2, cells := 0, slots := 0, locals := 36 } : Room).cells ({ frames := 2, cells := 0, slots := 0, locals := 36 } : Room).slots) := by
  refine MetFree.of_bodySF (plainFor_of_name pn_3_a2) hisR ?_
  intro p e s m args below meth c s₁ Bd hml0 hP hK
  obtain ⟨rfl, hZ, hh⟩ := hP
  have hx := Bd.exec
  have hby := Bd.bytes
  have hml : c.maxLocals = 2 := hml0
  have hown : s.vm.findClass "com/example/grammar_game_solver/grammargamesolver/summary/NumberedSets" = some m.cls := findClass_of_methodNamed Bd.named
  have hnm := (name_of_methodNamed Bd.named Bd.method).1
  have X0 : Stand p l e ({ frames := 2, cells := 0, slots := 0, locals := 36 } : Room) s m #[(.ref a1), (.ref a2)] below meth c s₁ [] 0 0 := Stand.of_body Bd
  have e0 : s₁.heap = h0 := by rw [← hh, Bd.state]; rfl
  have N0 := Fr.nil n0
  have K0 : Keep h0 h0 [a1, bw, bh, bs] := Keep.refl h0 [a1, bw, bh, bs]
  obtain ⟨F0, hF0⟩ : ∃ F : JFrame, F = entryFrame m #[(.ref a1), (.ref a2)] 2 := ⟨_, rfl⟩
  have pre0 : ∀ t, Steps p.tables e below (s₁.setTop F0) t → Steps p.tables e below (s₁.setTop (entryFrame m #[(.ref a1), (.ref a2)] 2)) t := fun t k => hF0 ▸ k
  have go0 : Go p e below s₁ F0 s₁ (mkF m 0 #[vr a1, vr a2] []) := fun t k => castTop (hF0.trans (ef_3_a2 m a1 a2)) k
  have go1 : Go p e below s₁ F0 s₁ (mkF m 3 #[vr a1, vr a2] [(.int (0 : Int32)), (.ref a2), (.ref a1)]) := by
    intro t_ k_
    refine go0 t_ ?_
    refine o_aloadN X0 hx (hb hby d3_0) rfl rfl ?_
    refine o_aloadN X0 hx (hb hby d3_1) rfl rfl ?_
    refine o_iconst X0 hx (hb hby d3_2) (v := 0) rfl ?_
    exact k_
  obtain ⟨cq2, q2, q2'⟩ := E0.cell
  obtain ⟨_, _, ⟨T2, L2, k2, n2⟩, -, X2, ⟨Lc2, hQ2, l2, y2, z2⟩, st2⟩ := X0.privateBack hx (y := y_3) hown (mvT hZ (own_w hw 25 rfl)) (mvT hZ (own_w hw 26 rfl)) (own_selp (mvT hZ (own_w hw 3 rfl)) (mvP hZ (own_w hw 27 rfl)) (mvT hZ (own_w hw 26 rfl)) (by decide)) (Cond.privateMethod_at (mvP hZ (own_w hw 27 rfl) (args := #[]))) (mvT hZ (own_w hw 28 rfl)) (by decide) (backOf (W := 0) (rm4_a2 l Z a0 hw [] a1 a2 bw bh bs kw kh ks k2 x0 x1 h0 n0 Z0 E0 Fwi Fwo Fha Fsl Fco Vw Vh Vs V2 g1 gw gh gs naw nah nas n2w n2h n2s n12 nwh nws nhs) hZ (own_w hw 28 rfl) (own_w hw 4 rfl) (by decide) (by decide)) (g := (mkF m 3 #[vr a1, vr a2] [(.int (0 : Int32)), (.ref a2), (.ref a1)])) rfl (by rw [hml]; rfl) (Steps.refl _) (a := a1) (by rw [e0]; exact q2) q2' (argsL := [(.ref a2), (.int (0 : Int32))]) (rest := []) (lenOf pd3_a2_0 rfl) rfl (by show 2 * 0 + _ ≤ _; exact Nat.le_of_eq rfl) (hb hby d3_3) (fun _ _ => ⟨rfl, e0, (by decide : 0 + 0 ≤ _), (by decide : 0 + 0 ≤ _)⟩)
  dsimp only [Pt.U, Pt.locs, Pt.cells, Pt.slots] at X2 l2 y2 z2 st2 hQ2
  subst l2 y2 z2
  obtain ⟨hs_2, sl_2, rfl, Nq2, Kc2, Fwi_2, Fwo_2, Fha_2, Fsl_2, Fco_2, Vw_2, Vh_2, Vs_2, hhs_2, hsl_2⟩ := hQ2
  have N2 := Fr.app N0 Nq2
  have K3 : Keep h0 T2.heap [a1, bw, bh, bs] := K0.trans Kc2 (allS (Or.inl (List.mem_of_getElem? (i := 0) rfl)) (allS (Or.inl (List.mem_of_getElem? (i := 1) rfl)) (allS (Or.inl (List.mem_of_getElem? (i := 2) rfl)) (allS (Or.inl (List.mem_of_getElem? (i := 3) rfl)) all0))))
  have Z3 : n0 ≤ T2.heap.size := Nat.le_trans Z0 Kc2.1
  have go4 : Go p e below s₁ F0 T2 (mkF m 6 #[vr a1, vr a2] [(.int (0 : Int32))]) := fun t_ k_ => go1 t_ (st2.trans k_)
  obtain ⟨fs, hr, hrun, hended, hW, hsame⟩ := X2.leave (v := some (.int (0 : Int32))) (fun h => by rw [Bd.returns] at h; cases h)
  refine ⟨_, _, pre0 _ (go4 _ ?_), hrun, hended, _, _, rfl, ?_, ⟨_, rfl⟩, hW, hsame.mono (by decide) (by decide)⟩
  · skip
    exact retI X2 hx Bd.returns (hb hby d3_6) hr
  · show Q3_a2 Z a1 a2 bw bh bs kw kh ks k2 x0 x1 h0 n0 _ T2.heap _
    exact ⟨hs_2, sl_2, rfl, N2, K3, Fwi_2, Fwo_2, Fha_2, Fsl_2, Fco_2, Vw_2, Vh_2, Vs_2, (by first | assumption | decide | omega), (by first | assumption | decide | omega)⟩

theorem pn_7_2 : plainName "com/example/grammar_game_solver/grammargamesolver/summary/NumberedSets" = true := by first | (simp [plainName, overriddenIn]; done) | decide +kernel
theorem ef_7_2 (m : MethodId) (x0 : Addr) (x2 : Addr) : entryFrame m #[(.ref x0), (.int (0 : Int32)), (.ref x2), (.int (0 : Int32))] 6 = mkF m 0 #[vr x0, vi (0 : Int32), vr x2, vi (0 : Int32), .unset, .unset] [] := by first | (simp [entryFrame, mkF, argsToLocals, Value.category]; done) | rfl
def f7_2 (x0 : Int64) (x1 : Int64) (y0 : Int64) (y1 : Int64) : Int32 := (if x0 = y0 then (if x1 = y1 then (1 : Int32) else (0 : Int32)) else (0 : Int32))
def Q7_2 (Z : State) (a1 : Addr) (a3 : Addr) (bw : Addr) (kw : ClassId) (k2 : ClassId) (x0 : Int64) (x1 : Int64) (y0 : Int64) (y1 : Int64) (h0 : Heap) (n0 : Nat) (v : Option Value) (h : Heap) (L : List Loc) : Prop := v = some (.int (f7_2 x0 x1 y0 y1)) ∧ Fr n0 L ∧ h = h0
set_option maxRecDepth 65536 in
set_option maxHeartbeats 40000000 in
theorem rm7_2 (l : Launch) (Z : State) (a0 : Array Value) (hw : ∀ d ∈ tables_1, d.before a0 Z = true) (ws : List Jvm.Cond) (a1 : Addr) (a3 : Addr) (bw : Addr) (kw : ClassId) (k2 : ClassId) (x0 : Int64) (x1 : Int64) (y0 : Int64) (y1 : Int64) (h0 : Heap) (n0 : Nat) (Z0 : n0 ≤ h0.size) (Fwi : Fld Z h0 a1 c_0 "width" "I" (.int (2 : Int32))) (Fwo : Fld Z h0 a1 c_0 "words" "[J" (.ref bw)) (Vw : Arv Z h0 bw kw .long (32 : Int32) ((.long x0) :: (.long x1) :: own_zl 30) (.long (0 : Int64))) (V3 : Arv Z h0 a3 k2 .long (2 : Int32) [(.long y0), (.long y1)] (.long (0 : Int64))) :
    MetFree l y_5 (head1 (Jvm.Cond.code y_5 prog_63_method_10_code 6 (some .boolean) :: ws) ({ frames := 0, cells := 0, slots := 0, locals := 0 } : Room)) (fun a U => a = #[(.ref a1), (.int (0 : Int32)), (.ref a3), (.int (0 : Int32))] ∧ Z.Warmed39 U.vm ∧ U.heap = h0) (fun _ _ _ _ _ => True) (fun _ U o U' => ∃ v L, o = .returned v ∧ Q7_2 Z a1 a3 bw kw k2 x0 x1 y0 y1 h0 n0 v U'.heap L ∧ FrameEnd U o U' L ({ frames := 0, cells := 0, slots := 0, locals := 0 } : Room).cells ({ frames := 0, cells := 0, slots := 0, locals := 0 } : Room).slots) := by
  refine MetFree.of_bodySF (plainFor_of_name pn_7_2) hisR ?_
  intro p e s m args below meth c s₁ Bd hml0 hP hK
  obtain ⟨rfl, hZ, hh⟩ := hP
  have hx := Bd.exec
  have hby := Bd.bytes
  have hml : c.maxLocals = 6 := hml0
  have hown : s.vm.findClass "com/example/grammar_game_solver/grammargamesolver/summary/NumberedSets" = some m.cls := findClass_of_methodNamed Bd.named
  have hnm := (name_of_methodNamed Bd.named Bd.method).1
  have X0 : Stand p l e ({ frames := 0, cells := 0, slots := 0, locals := 0 } : Room) s m #[(.ref a1), (.int (0 : Int32)), (.ref a3), (.int (0 : Int32))] below meth c s₁ [] 0 0 := Stand.of_body Bd
  have e0 : s₁.heap = h0 := by rw [← hh, Bd.state]; rfl
  have N0 := Fr.nil n0
  obtain ⟨F0, hF0⟩ : ∃ F : JFrame, F = entryFrame m #[(.ref a1), (.int (0 : Int32)), (.ref a3), (.int (0 : Int32))] 6 := ⟨_, rfl⟩
  have pre0 : ∀ t, Steps p.tables e below (s₁.setTop F0) t → Steps p.tables e below (s₁.setTop (entryFrame m #[(.ref a1), (.int (0 : Int32)), (.ref a3), (.int (0 : Int32))] 6)) t := fun t k => hF0 ▸ k
  have go0 : Go p e below s₁ F0 s₁ (mkF m 0 #[vr a1, vi (0 : Int32), vr a3, vi (0 : Int32), .unset, .unset] []) := fun t k => castTop (hF0.trans (ef_7_2 m a1 a3)) k
  have go1 : Go p e below s₁ F0 s₁ (mkF m 2 #[vr a1, vi (0 : Int32), vr a3, vi (0 : Int32), .unset, .unset] [(.ref a1), (.int (0 : Int32))]) := by
    intro t_ k_
    refine go0 t_ ?_
    refine o_iloadN X0 hx (hb hby d7_0) rfl ?_
    refine o_aloadN X0 hx (hb hby d7_1) rfl rfl ?_
    exact k_
  obtain ⟨T2, X2, e2, st2⟩ := getF X0 hx hZ hown (host := "") (Or.inl (own_w hw 11 rfl)) Via.refl e0 Fwi (g := (mkF m 2 #[vr a1, vi (0 : Int32), vr a3, vi (0 : Int32), .unset, .unset] [(.ref a1), (.int (0 : Int32))])) rfl rfl (hb hby d7_2)
  have go3 : Go p e below s₁ F0 T2 (mkF m 5 #[vr a1, vi (0 : Int32), vr a3, vi (0 : Int32), .unset, .unset] [(.int (2 : Int32)), (.int (0 : Int32))]) := fun t_ k_ => go1 t_ (st2 t_ k_)
  have go4 : Go p e below s₁ F0 T2 (mkF m 14 #[vr a1, vi (0 : Int32), vr a3, vi (0 : Int32), vi (0 : Int32), vi (0 : Int32)] [(.ref a1), (.int (0 : Int32))]) := by
    intro t_ k_
    refine go3 t_ ?_
    refine o_imulE X2 hx (hb hby d7_5) (v := 0) rfl ?_
    refine o_istore X2 hx (hb hby d7_6) (L' := #[vr a1, vi (0 : Int32), vr a3, vi (0 : Int32), vi (0 : Int32), .unset]) rfl ?_
    refine o_iconst X2 hx (hb hby d7_8) (v := 0) rfl ?_
    refine o_istore X2 hx (hb hby d7_9) (L' := #[vr a1, vi (0 : Int32), vr a3, vi (0 : Int32), vi (0 : Int32), vi (0 : Int32)]) rfl ?_
    refine o_iload X2 hx (hb hby d7_11) rfl ?_
    refine o_aloadN X2 hx (hb hby d7_13) rfl rfl ?_
    exact k_
  obtain ⟨T5, X5, e5, st5⟩ := getF X2 hx hZ hown (host := "") (Or.inl (own_w hw 11 rfl)) Via.refl e2 Fwi (g := (mkF m 14 #[vr a1, vi (0 : Int32), vr a3, vi (0 : Int32), vi (0 : Int32), vi (0 : Int32)] [(.ref a1), (.int (0 : Int32))])) rfl rfl (hb hby d7_14)
  have go6 : Go p e below s₁ F0 T5 (mkF m 17 #[vr a1, vi (0 : Int32), vr a3, vi (0 : Int32), vi (0 : Int32), vi (0 : Int32)] [(.int (2 : Int32)), (.int (0 : Int32))]) := fun t_ k_ => go4 t_ (st5 t_ k_)
  have go7 : Go p e below s₁ F0 T5 (mkF m 21 #[vr a1, vi (0 : Int32), vr a3, vi (0 : Int32), vi (0 : Int32), vi (0 : Int32)] [(.ref a1)]) := by
    intro t_ k_
    refine go6 t_ ?_
    refine o_icmpNo X5 hx (hb hby d7_17) (tlt (by decide : (0 : Int32) < (2 : Int32))).2.1 ?_
    refine o_aloadN X5 hx (hb hby d7_20) rfl rfl ?_
    exact k_
  obtain ⟨T8, X8, e8, st8⟩ := getF X5 hx hZ hown (host := "") (Or.inl (own_w hw 13 rfl)) Via.refl e5 Fwo (g := (mkF m 21 #[vr a1, vi (0 : Int32), vr a3, vi (0 : Int32), vi (0 : Int32), vi (0 : Int32)] [(.ref a1)])) rfl rfl (hb hby d7_21)
  have go9 : Go p e below s₁ F0 T8 (mkF m 24 #[vr a1, vi (0 : Int32), vr a3, vi (0 : Int32), vi (0 : Int32), vi (0 : Int32)] [(.ref bw)]) := fun t_ k_ => go7 t_ (st8 t_ k_)
  have go10 : Go p e below s₁ F0 T8 (mkF m 29 #[vr a1, vi (0 : Int32), vr a3, vi (0 : Int32), vi (0 : Int32), vi (0 : Int32)] [(.int (0 : Int32)), (.ref bw)]) := by
    intro t_ k_
    refine go9 t_ ?_
    refine o_iload X8 hx (hb hby d7_24) rfl ?_
    refine o_iload X8 hx (hb hby d7_26) rfl ?_
    refine o_iaddE X8 hx (hb hby d7_28) (v := 0) rfl ?_
    exact k_
  obtain ⟨cl11, Ar11, -, Sz11, Nn11, Hs11, -⟩ := id Vw
  have hin11 : ¬ ((0 : Int32) < 0 ∨ cl11.slots.size ≤ ((0 : Int32)).toNatClampNeg) := inb_of Sz11 ⟨by decide, by decide⟩
  have hat11 : cl11.slots[((0 : Int32)).toNatClampNeg]? = some (.long x0) := Hs11.at hin11 rfl
  have go12 : Go p e below s₁ F0 T8 (mkF m 35 #[vr a1, vi (0 : Int32), vr a3, vi (0 : Int32), vi (0 : Int32), vi (0 : Int32)] [(.int (0 : Int32)), (.ref a3), (.long x0)]) := by
    intro t_ k_
    refine go10 t_ ?_
    refine o_laload X8 hx hZ e8 Ar11 hin11 hat11 (hb hby d7_29) ?_
    refine o_aloadN X8 hx (hb hby d7_30) rfl rfl ?_
    refine o_iloadN X8 hx (hb hby d7_31) rfl ?_
    refine o_iload X8 hx (hb hby d7_32) rfl ?_
    refine o_iaddE X8 hx (hb hby d7_34) (v := 0) rfl ?_
    exact k_
  obtain ⟨cl13, Ar13, -, Sz13, Nn13, Hs13, -⟩ := id V3
  have hin13 : ¬ ((0 : Int32) < 0 ∨ cl13.slots.size ≤ ((0 : Int32)).toNatClampNeg) := inb_of Sz13 ⟨by decide, by decide⟩
  have hat13 : cl13.slots[((0 : Int32)).toNatClampNeg]? = some (.long y0) := Hs13.at hin13 rfl
  have go14 : Go p e below s₁ F0 T8 (mkF m 37 #[vr a1, vi (0 : Int32), vr a3, vi (0 : Int32), vi (0 : Int32), vi (0 : Int32)] [(.int (lcmpW x0 y0))]) := by
    intro t_ k_
    refine go12 t_ ?_
    refine o_laload X8 hx hZ e8 Ar13 hin13 hat13 (hb hby d7_35) ?_
    refine o_lcmp X8 hx (hb hby d7_36) ?_
    exact k_
  by_cases hc37_15 : x0 = y0
  · skip
    have go16 : Go p e below s₁ F0 T8 (mkF m 14 #[vr a1, vi (0 : Int32), vr a3, vi (0 : Int32), vi (0 : Int32), vi (1 : Int32)] [(.ref a1), (.int (1 : Int32))]) := by
      intro t_ k_
      refine go14 t_ ?_
      refine o_ifYes X8 hx (hb hby d7_37) (pc' := 42) rfl (by decide) ((if0 _ _).trans (teq ((lw_eq _ _).mpr hc37_15)).1) ?_
      refine o_iinc X8 hx (hb hby d7_42) rfl (L' := #[vr a1, vi (0 : Int32), vr a3, vi (0 : Int32), vi (0 : Int32), vi (1 : Int32)]) rfl ?_
      refine o_goto X8 hx (hb hby d7_45) (pc' := 11) rfl (by decide) ?_
      refine o_iload X8 hx (hb hby d7_11) rfl ?_
      refine o_aloadN X8 hx (hb hby d7_13) rfl rfl ?_
      exact k_
    obtain ⟨T17, X17, e17, st17⟩ := getF X8 hx hZ hown (host := "") (Or.inl (own_w hw 11 rfl)) Via.refl e8 Fwi (g := (mkF m 14 #[vr a1, vi (0 : Int32), vr a3, vi (0 : Int32), vi (0 : Int32), vi (1 : Int32)] [(.ref a1), (.int (1 : Int32))])) rfl rfl (hb hby d7_14)
    have go18 : Go p e below s₁ F0 T17 (mkF m 17 #[vr a1, vi (0 : Int32), vr a3, vi (0 : Int32), vi (0 : Int32), vi (1 : Int32)] [(.int (2 : Int32)), (.int (1 : Int32))]) := fun t_ k_ => go16 t_ (st17 t_ k_)
    have go19 : Go p e below s₁ F0 T17 (mkF m 21 #[vr a1, vi (0 : Int32), vr a3, vi (0 : Int32), vi (0 : Int32), vi (1 : Int32)] [(.ref a1)]) := by
      intro t_ k_
      refine go18 t_ ?_
      refine o_icmpNo X17 hx (hb hby d7_17) (tlt (by decide : (1 : Int32) < (2 : Int32))).2.1 ?_
      refine o_aloadN X17 hx (hb hby d7_20) rfl rfl ?_
      exact k_
    obtain ⟨T20, X20, e20, st20⟩ := getF X17 hx hZ hown (host := "") (Or.inl (own_w hw 13 rfl)) Via.refl e17 Fwo (g := (mkF m 21 #[vr a1, vi (0 : Int32), vr a3, vi (0 : Int32), vi (0 : Int32), vi (1 : Int32)] [(.ref a1)])) rfl rfl (hb hby d7_21)
    have go21 : Go p e below s₁ F0 T20 (mkF m 24 #[vr a1, vi (0 : Int32), vr a3, vi (0 : Int32), vi (0 : Int32), vi (1 : Int32)] [(.ref bw)]) := fun t_ k_ => go19 t_ (st20 t_ k_)
    have go22 : Go p e below s₁ F0 T20 (mkF m 29 #[vr a1, vi (0 : Int32), vr a3, vi (0 : Int32), vi (0 : Int32), vi (1 : Int32)] [(.int (1 : Int32)), (.ref bw)]) := by
      intro t_ k_
      refine go21 t_ ?_
      refine o_iload X20 hx (hb hby d7_24) rfl ?_
      refine o_iload X20 hx (hb hby d7_26) rfl ?_
      refine o_iaddE X20 hx (hb hby d7_28) (v := 1) rfl ?_
      exact k_
    obtain ⟨cl23, Ar23, -, Sz23, Nn23, Hs23, -⟩ := id Vw
    have hin23 : ¬ ((1 : Int32) < 0 ∨ cl23.slots.size ≤ ((1 : Int32)).toNatClampNeg) := inb_of Sz23 ⟨by decide, by decide⟩
    have hat23 : cl23.slots[((1 : Int32)).toNatClampNeg]? = some (.long x1) := Hs23.at hin23 rfl
    have go24 : Go p e below s₁ F0 T20 (mkF m 35 #[vr a1, vi (0 : Int32), vr a3, vi (0 : Int32), vi (0 : Int32), vi (1 : Int32)] [(.int (1 : Int32)), (.ref a3), (.long x1)]) := by
      intro t_ k_
      refine go22 t_ ?_
      refine o_laload X20 hx hZ e20 Ar23 hin23 hat23 (hb hby d7_29) ?_
      refine o_aloadN X20 hx (hb hby d7_30) rfl rfl ?_
      refine o_iloadN X20 hx (hb hby d7_31) rfl ?_
      refine o_iload X20 hx (hb hby d7_32) rfl ?_
      refine o_iaddE X20 hx (hb hby d7_34) (v := 1) rfl ?_
      exact k_
    obtain ⟨cl25, Ar25, -, Sz25, Nn25, Hs25, -⟩ := id V3
    have hin25 : ¬ ((1 : Int32) < 0 ∨ cl25.slots.size ≤ ((1 : Int32)).toNatClampNeg) := inb_of Sz25 ⟨by decide, by decide⟩
    have hat25 : cl25.slots[((1 : Int32)).toNatClampNeg]? = some (.long y1) := Hs25.at hin25 rfl
    have go26 : Go p e below s₁ F0 T20 (mkF m 37 #[vr a1, vi (0 : Int32), vr a3, vi (0 : Int32), vi (0 : Int32), vi (1 : Int32)] [(.int (lcmpW x1 y1))]) := by
      intro t_ k_
      refine go24 t_ ?_
      refine o_laload X20 hx hZ e20 Ar25 hin25 hat25 (hb hby d7_35) ?_
      refine o_lcmp X20 hx (hb hby d7_36) ?_
      exact k_
    by_cases hc37_27 : x1 = y1
    · skip
      have go28 : Go p e below s₁ F0 T20 (mkF m 14 #[vr a1, vi (0 : Int32), vr a3, vi (0 : Int32), vi (0 : Int32), vi (2 : Int32)] [(.ref a1), (.int (2 : Int32))]) := by
        intro t_ k_
        refine go26 t_ ?_
        refine o_ifYes X20 hx (hb hby d7_37) (pc' := 42) rfl (by decide) ((if0 _ _).trans (teq ((lw_eq _ _).mpr hc37_27)).1) ?_
        refine o_iinc X20 hx (hb hby d7_42) rfl (L' := #[vr a1, vi (0 : Int32), vr a3, vi (0 : Int32), vi (0 : Int32), vi (2 : Int32)]) rfl ?_
        refine o_goto X20 hx (hb hby d7_45) (pc' := 11) rfl (by decide) ?_
        refine o_iload X20 hx (hb hby d7_11) rfl ?_
        refine o_aloadN X20 hx (hb hby d7_13) rfl rfl ?_
        exact k_
      obtain ⟨T29, X29, e29, st29⟩ := getF X20 hx hZ hown (host := "") (Or.inl (own_w hw 11 rfl)) Via.refl e20 Fwi (g := (mkF m 14 #[vr a1, vi (0 : Int32), vr a3, vi (0 : Int32), vi (0 : Int32), vi (2 : Int32)] [(.ref a1), (.int (2 : Int32))])) rfl rfl (hb hby d7_14)
      have go30 : Go p e below s₁ F0 T29 (mkF m 17 #[vr a1, vi (0 : Int32), vr a3, vi (0 : Int32), vi (0 : Int32), vi (2 : Int32)] [(.int (2 : Int32)), (.int (2 : Int32))]) := fun t_ k_ => go28 t_ (st29 t_ k_)
      have go31 : Go p e below s₁ F0 T29 (mkF m 49 #[vr a1, vi (0 : Int32), vr a3, vi (0 : Int32), vi (0 : Int32), vi (2 : Int32)] [(.int (1 : Int32))]) := by
        intro t_ k_
        refine go30 t_ ?_
        refine o_icmpYes X29 hx (hb hby d7_17) (pc' := 48) rfl (by decide) (flt (by decide : ¬ ((2 : Int32) < (2 : Int32)))).2.1 ?_
        refine o_iconst X29 hx (hb hby d7_48) (v := 1) rfl ?_
        exact k_
      obtain ⟨fs, hr, hrun, hended, hW, hsame⟩ := X29.leave (v := some (.int (1 : Int32))) (fun h => by rw [Bd.returns] at h; cases h)
      refine ⟨_, _, pre0 _ (go31 _ ?_), hrun, hended, _, _, rfl, ?_, ⟨_, rfl⟩, hW, hsame.mono (by decide) (by decide)⟩
      · skip
        exact retN X29 hx (t := .boolean) Bd.returns (by simp) (hb hby d7_49) hr
      · show Q7_2 Z a1 a3 bw kw k2 x0 x1 y0 y1 h0 n0 _ T29.heap _
        rw [e29]
        exact ⟨(congrArg (fun z => some (Value.int z)) (show (1 : Int32) = f7_2 x0 x1 y0 y1 from by unfold f7_2; rw [if_pos hc37_15, if_pos hc37_27])), N0, rfl⟩
    · skip
      have go32 : Go p e below s₁ F0 T20 (mkF m 41 #[vr a1, vi (0 : Int32), vr a3, vi (0 : Int32), vi (0 : Int32), vi (1 : Int32)] [(.int (0 : Int32))]) := by
        intro t_ k_
        refine go26 t_ ?_
        refine o_ifNo X20 hx (hb hby d7_37) ((if0 _ _).trans (feq (fun q => hc37_27 ((lw_eq _ _).mp q))).1) ?_
        refine o_iconst X20 hx (hb hby d7_40) (v := 0) rfl ?_
        exact k_
      obtain ⟨fs, hr, hrun, hended, hW, hsame⟩ := X20.leave (v := some (.int (0 : Int32))) (fun h => by rw [Bd.returns] at h; cases h)
      refine ⟨_, _, pre0 _ (go32 _ ?_), hrun, hended, _, _, rfl, ?_, ⟨_, rfl⟩, hW, hsame.mono (by decide) (by decide)⟩
      · skip
        exact retN X20 hx (t := .boolean) Bd.returns (by simp) (hb hby d7_41) hr
      · show Q7_2 Z a1 a3 bw kw k2 x0 x1 y0 y1 h0 n0 _ T20.heap _
        rw [e20]
        exact ⟨(congrArg (fun z => some (Value.int z)) (show (0 : Int32) = f7_2 x0 x1 y0 y1 from by unfold f7_2; rw [if_pos hc37_15, if_neg hc37_27])), N0, rfl⟩
  · skip
    have go33 : Go p e below s₁ F0 T8 (mkF m 41 #[vr a1, vi (0 : Int32), vr a3, vi (0 : Int32), vi (0 : Int32), vi (0 : Int32)] [(.int (0 : Int32))]) := by
      intro t_ k_
      refine go14 t_ ?_
      refine o_ifNo X8 hx (hb hby d7_37) ((if0 _ _).trans (feq (fun q => hc37_15 ((lw_eq _ _).mp q))).1) ?_
      refine o_iconst X8 hx (hb hby d7_40) (v := 0) rfl ?_
      exact k_
    obtain ⟨fs, hr, hrun, hended, hW, hsame⟩ := X8.leave (v := some (.int (0 : Int32))) (fun h => by rw [Bd.returns] at h; cases h)
    refine ⟨_, _, pre0 _ (go33 _ ?_), hrun, hended, _, _, rfl, ?_, ⟨_, rfl⟩, hW, hsame.mono (by decide) (by decide)⟩
    · skip
      exact retN X8 hx (t := .boolean) Bd.returns (by simp) (hb hby d7_41) hr
    · show Q7_2 Z a1 a3 bw kw k2 x0 x1 y0 y1 h0 n0 _ T8.heap _
      rw [e8]
      exact ⟨(congrArg (fun z => some (Value.int z)) (show (0 : Int32) = f7_2 x0 x1 y0 y1 from by unfold f7_2; rw [if_neg hc37_15])), N0, rfl⟩

theorem own_neH_2 {x0 x1 y0 y1 : Int64} {hs hs2 : Int32} (h1 : hs = (((31 : Int32) * ((31 : Int32) + (f5 x0))) + (f5 x1))) (h2 : hs2 = (((31 : Int32) * ((31 : Int32) + (f5 y0))) + (f5 y1))) (h : ¬ hs = hs2) : ¬ (x0 = y0 ∧ x1 = y1) := by
  intro q
  apply h
  obtain ⟨rfl, rfl⟩ := q
  rw [h1, h2]
theorem own_neT_2 {x0 x1 y0 y1 : Int64} {hs hs2 sl t : Int32} (h1 : hs = (((31 : Int32) * ((31 : Int32) + (f5 x0))) + (f5 x1))) (h3 : sl = (f6 hs (31 : Int32))) (h2 : hs2 = (((31 : Int32) * ((31 : Int32) + (f5 y0))) + (f5 y1))) (h4 : t = (f6 hs2 (31 : Int32))) (h : ¬ t = sl) : ¬ (x0 = y0 ∧ x1 = y1) := by
  intro q
  apply h
  obtain ⟨rfl, rfl⟩ := q
  rw [h4, h3, h2, h1]
theorem own_eqT_2 {x0 x1 y0 y1 : Int64} (h : ¬ (f7_2 x0 x1 y0 y1) = (0 : Int32)) : (x0 = y0 ∧ x1 = y1) := by
  unfold f7_2 at h
  split at h
  · split at h
    · exact ⟨by assumption, by assumption⟩
    · exact absurd rfl h
  · exact absurd rfl h
theorem own_neW_2 {x0 x1 y0 y1 : Int64} (h : (f7_2 x0 x1 y0 y1) = (0 : Int32)) : ¬ (x0 = y0 ∧ x1 = y1) := by
  intro q
  unfold f7_2 at h
  rw [if_pos q.1, if_pos q.2] at h
  exact absurd h (by decide)

theorem pn_4_b2 : plainName "com/example/grammar_game_solver/grammargamesolver/summary/NumberedSets" = true := by first | (simp [plainName, overriddenIn]; done) | decide +kernel
theorem pd4_b2_0 : parseMethodDescriptor "(J)I" = some ⟨[.long], some .int⟩ := by decide +kernel
theorem pd4_b2_1 : parseMethodDescriptor "(II)I" = some ⟨[.int, .int], some .int⟩ := by decide +kernel
theorem pd4_b2_2 : parseMethodDescriptor "(I[JI)Z" = some ⟨[.int, (.array .long), .int], some .boolean⟩ := by decide +kernel
theorem ef_4_b2 (m : MethodId) (x0 : Addr) (x1 : Addr) : entryFrame m #[(.ref x0), (.ref x1), (.int (0 : Int32))] 7 = mkF m 0 #[vr x0, vr x1, vi (0 : Int32), .unset, .unset, .unset, .unset] [] := by first | (simp [entryFrame, mkF, argsToLocals, Value.category]; done) | rfl
def Q4_b2 (Z : State) (a1 : Addr) (a2 : Addr) (bw : Addr) (bh : Addr) (bs : Addr) (kw : ClassId) (kh : ClassId) (ks : ClassId) (k2 : ClassId) (hs : Int32) (sl : Int32) (x0 : Int64) (x1 : Int64) (y0 : Int64) (y1 : Int64) (h0 : Heap) (n0 : Nat) (v : Option Value) (h : Heap) (L : List Loc) : Prop := ∃ n : Int32, ∃ w0 : Int64, ∃ w1 : Int64, v = some (.int n) ∧ Fr n0 L ∧ Keep h0 h [a1, bw, bh, bs] ∧ Fld Z h a1 c_0 "width" "I" (.int (2 : Int32)) ∧ Fld Z h a1 c_0 "words" "[J" (.ref bw) ∧ Arv Z h bw kw .long (32 : Int32) ((.long x0) :: (.long x1) :: (.long w0) :: (.long w1) :: own_zl 28) (.long (0 : Int64)) ∧ ((n = (0 : Int32) ∧ (x0 = y0 ∧ x1 = y1)) ∨ (n = (1 : Int32) ∧ ¬ (x0 = y0 ∧ x1 = y1) ∧ w0 = y0 ∧ w1 = y1))
set_option maxRecDepth 65536 in
set_option maxHeartbeats 40000000 in
theorem rm4_b2 (l : Launch) (Z : State) (a0 : Array Value) (hw : ∀ d ∈ tables_1, d.before a0 Z = true) (ws : List Jvm.Cond) (a1 : Addr) (a2 : Addr) (bw : Addr) (bh : Addr) (bs : Addr) (kw : ClassId) (kh : ClassId) (ks : ClassId) (k2 : ClassId) (hs : Int32) (sl : Int32) (x0 : Int64) (x1 : Int64) (y0 : Int64) (y1 : Int64) (h0 : Heap) (n0 : Nat) (Z0 : n0 ≤ h0.size) (E0 : Exa Z h0 a1 c_0) (Fwi : Fld Z h0 a1 c_0 "width" "I" (.int (2 : Int32))) (Fwo : Fld Z h0 a1 c_0 "words" "[J" (.ref bw)) (Fha : Fld Z h0 a1 c_0 "hashes" "[I" (.ref bh)) (Fsl : Fld Z h0 a1 c_0 "slots" "[I" (.ref bs)) (Fco : Fld Z h0 a1 c_0 "count" "I" (.int (1 : Int32))) (Vw : Arv Z h0 bw kw .long (32 : Int32) ((.long x0) :: (.long x1) :: own_zl 30) (.long (0 : Int64))) (Vh : Arv Z h0 bh kh .int (16 : Int32) ((.int hs) :: own_zi 15) (.int (0 : Int32))) (Vs : Arv Z h0 bs ks .int (32 : Int32) (own_sl sl) (.int (0 : Int32))) (V2 : Arv Z h0 a2 k2 .long (2 : Int32) [(.long y0), (.long y1)] (.long (0 : Int64))) (g1 : n0 ≤ a1) (gw : n0 ≤ bw) (gh : n0 ≤ bh) (gs : n0 ≤ bs) (naw : a1 ≠ bw) (nah : a1 ≠ bh) (nas : a1 ≠ bs) (n2w : a2 ≠ bw) (n2h : a2 ≠ bh) (n2s : a2 ≠ bs) (n12 : a1 ≠ a2) (nwh : bw ≠ bh) (nws : bw ≠ bs) (nhs : bh ≠ bs) (hhs : hs = (((31 : Int32) * ((31 : Int32) + (f5 x0))) + (f5 x1))) (hsl : sl = (f6 hs (31 : Int32))) :
    MetFree l y_3 (head1 (Jvm.Cond.code y_3 prog_63_method_6_code 7 (some .int) :: ws) ({ frames := 1, cells := 0, slots := 0, locals := 18 } : Room)) (fun a U => a = #[(.ref a1), (.ref a2), (.int (0 : Int32))] ∧ Z.Warmed39 U.vm ∧ U.heap = h0) (fun _ _ _ _ _ => True) (fun _ U o U' => ∃ v L, o = .returned v ∧ Q4_b2 Z a1 a2 bw bh bs kw kh ks k2 hs sl x0 x1 y0 y1 h0 n0 v U'.heap L ∧ FrameEnd U o U' L ({ frames := 1, cells := 0, slots := 0, locals := 18 } : Room).cells ({ frames := 1, cells := 0, slots := 0, locals := 18 } : Room).slots) := by
  refine MetFree.of_bodySF (plainFor_of_name pn_4_b2) hisR ?_
  intro p e s m args below meth c s₁ Bd hml0 hP hK
  obtain ⟨rfl, hZ, hh⟩ := hP
  have hx := Bd.exec
  have hby := Bd.bytes
  have hml : c.maxLocals = 7 := hml0
  have hown : s.vm.findClass "com/example/grammar_game_solver/grammargamesolver/summary/NumberedSets" = some m.cls := findClass_of_methodNamed Bd.named
  have hnm := (name_of_methodNamed Bd.named Bd.method).1
  have X0 : Stand p l e ({ frames := 1, cells := 0, slots := 0, locals := 18 } : Room) s m #[(.ref a1), (.ref a2), (.int (0 : Int32))] below meth c s₁ [] 0 0 := Stand.of_body Bd
  have e0 : s₁.heap = h0 := by rw [← hh, Bd.state]; rfl
  have N0 := Fr.nil n0
  have K0 : Keep h0 h0 [a1, bw, bh, bs] := Keep.refl h0 [a1, bw, bh, bs]
  obtain ⟨F0, hF0⟩ : ∃ F : JFrame, F = entryFrame m #[(.ref a1), (.ref a2), (.int (0 : Int32))] 7 := ⟨_, rfl⟩
  have pre0 : ∀ t, Steps p.tables e below (s₁.setTop F0) t → Steps p.tables e below (s₁.setTop (entryFrame m #[(.ref a1), (.ref a2), (.int (0 : Int32))] 7)) t := fun t k => hF0 ▸ k
  have go0 : Go p e below s₁ F0 s₁ (mkF m 0 #[vr a1, vr a2, vi (0 : Int32), .unset, .unset, .unset, .unset] []) := fun t k => castTop (hF0.trans (ef_4_b2 m a1 a2)) k
  have go1 : Go p e below s₁ F0 s₁ (mkF m 8 #[vr a1, vr a2, vi (0 : Int32), vi (1 : Int32), vi (0 : Int32), .unset, .unset] [(.ref a1), (.int (0 : Int32))]) := by
    intro t_ k_
    refine go0 t_ ?_
    refine o_iconst X0 hx (hb hby d4_0) (v := 1) rfl ?_
    refine o_istoreN X0 hx (hb hby d4_1) (L' := #[vr a1, vr a2, vi (0 : Int32), vi (1 : Int32), .unset, .unset, .unset]) rfl ?_
    refine o_iconst X0 hx (hb hby d4_2) (v := 0) rfl ?_
    refine o_istore X0 hx (hb hby d4_3) (L' := #[vr a1, vr a2, vi (0 : Int32), vi (1 : Int32), vi (0 : Int32), .unset, .unset]) rfl ?_
    refine o_iload X0 hx (hb hby d4_5) rfl ?_
    refine o_aloadN X0 hx (hb hby d4_7) rfl rfl ?_
    exact k_
  obtain ⟨T2, X2, e2, st2⟩ := getF X0 hx hZ hown (host := "") (Or.inl (own_w hw 11 rfl)) Via.refl e0 Fwi (g := (mkF m 8 #[vr a1, vr a2, vi (0 : Int32), vi (1 : Int32), vi (0 : Int32), .unset, .unset] [(.ref a1), (.int (0 : Int32))])) rfl rfl (hb hby d4_8)
  have go3 : Go p e below s₁ F0 T2 (mkF m 11 #[vr a1, vr a2, vi (0 : Int32), vi (1 : Int32), vi (0 : Int32), .unset, .unset] [(.int (2 : Int32)), (.int (0 : Int32))]) := fun t_ k_ => go1 t_ (st2 t_ k_)
  have go4 : Go p e below s₁ F0 T2 (mkF m 23 #[vr a1, vr a2, vi (0 : Int32), vi (1 : Int32), vi (0 : Int32), .unset, .unset] [(.int (0 : Int32)), (.ref a2), (.int (31 : Int32))]) := by
    intro t_ k_
    refine go3 t_ ?_
    refine o_icmpNo X2 hx (hb hby d4_11) (tlt (by decide : (0 : Int32) < (2 : Int32))).2.1 ?_
    refine o_bipush X2 hx (hb hby d4_14) (v := 31) rfl ?_
    refine o_iloadN X2 hx (hb hby d4_16) rfl ?_
    refine o_imulE X2 hx (hb hby d4_17) (v := 31) rfl ?_
    refine o_aloadN X2 hx (hb hby d4_18) rfl rfl ?_
    refine o_iloadN X2 hx (hb hby d4_19) rfl ?_
    refine o_iload X2 hx (hb hby d4_20) rfl ?_
    refine o_iaddE X2 hx (hb hby d4_22) (v := 0) rfl ?_
    exact k_
  obtain ⟨cl5, Ar5, -, Sz5, Nn5, Hs5, -⟩ := id V2
  have hin5 : ¬ ((0 : Int32) < 0 ∨ cl5.slots.size ≤ ((0 : Int32)).toNatClampNeg) := inb_of Sz5 ⟨by decide, by decide⟩
  have hat5 : cl5.slots[((0 : Int32)).toNatClampNeg]? = some (.long y0) := Hs5.at hin5 rfl
  have go6 : Go p e below s₁ F0 T2 (mkF m 24 #[vr a1, vr a2, vi (0 : Int32), vi (1 : Int32), vi (0 : Int32), .unset, .unset] [(.long y0), (.int (31 : Int32))]) := by
    intro t_ k_
    refine go4 t_ ?_
    refine o_laload X2 hx hZ e2 Ar5 hin5 hat5 (hb hby d4_23) ?_
    exact k_
  obtain ⟨_, _, ⟨T7, L7, k7, n7⟩, -, X7, ⟨Lc7, hQ7, l7, y7, z7⟩, st7⟩ := Jvm.LawKit.callS X2 hx (y := y_0) hown (mvT hZ (own_w hw 29 rfl)) (mvT hZ (own_w hw 30 rfl)) (mvT hZ (own_w hw 31 rfl)) (mvT hZ (own_w hw 32 rfl)) (by decide) (backOf (W := 1) (rm5 l Z a0 hw [] y0 h0 n0 Z0 ) hZ (own_w hw 32 rfl) (own_w hw 31 rfl) (by decide) (by decide)) (g := (mkF m 24 #[vr a1, vr a2, vi (0 : Int32), vi (1 : Int32), vi (0 : Int32), .unset, .unset] [(.long y0), (.int (31 : Int32))])) rfl (by rw [hml]; rfl) (argsL := [(.long y0)]) (rest := [(.int (31 : Int32))]) (lenOf pd4_b2_0 rfl) rfl (by show 2 * 0 + _ ≤ _; exact Nat.le_of_eq rfl) (hb hby d4_24) (fun _ _ => ⟨rfl, e2, (by decide : 0 + 0 ≤ _), (by decide : 0 + 0 ≤ _)⟩)
  dsimp only [Pt.U, Pt.locs, Pt.cells, Pt.slots] at X7 l7 y7 z7 st7 hQ7
  subst l7 y7 z7
  obtain ⟨rfl, Nq7, eh7⟩ := hQ7
  have N7 := Fr.app N0 Nq7
  have go8 : Go p e below s₁ F0 T7 (mkF m 27 #[vr a1, vr a2, vi (0 : Int32), vi (1 : Int32), vi (0 : Int32), .unset, .unset] [(.int (f5 y0)), (.int (31 : Int32))]) := fun t_ k_ => go6 t_ (st7 t_ k_)
  have go9 : Go p e below s₁ F0 T7 (mkF m 8 #[vr a1, vr a2, vi (0 : Int32), vi ((31 : Int32) + (f5 y0)), vi (1 : Int32), .unset, .unset] [(.ref a1), (.int (1 : Int32))]) := by
    intro t_ k_
    refine go8 t_ ?_
    refine o_iadd X7 hx (hb hby d4_27) ?_
    refine o_istoreN X7 hx (hb hby d4_28) (L' := #[vr a1, vr a2, vi (0 : Int32), vi ((31 : Int32) + (f5 y0)), vi (0 : Int32), .unset, .unset]) rfl ?_
    refine o_iinc X7 hx (hb hby d4_29) rfl (L' := #[vr a1, vr a2, vi (0 : Int32), vi ((31 : Int32) + (f5 y0)), vi (1 : Int32), .unset, .unset]) rfl ?_
    refine o_goto X7 hx (hb hby d4_32) (pc' := 5) rfl (by decide) ?_
    refine o_iload X7 hx (hb hby d4_5) rfl ?_
    refine o_aloadN X7 hx (hb hby d4_7) rfl rfl ?_
    exact k_
  obtain ⟨T10, X10, e10, st10⟩ := getF X7 hx hZ hown (host := "") (Or.inl (own_w hw 11 rfl)) Via.refl eh7 Fwi (g := (mkF m 8 #[vr a1, vr a2, vi (0 : Int32), vi ((31 : Int32) + (f5 y0)), vi (1 : Int32), .unset, .unset] [(.ref a1), (.int (1 : Int32))])) rfl rfl (hb hby d4_8)
  have go11 : Go p e below s₁ F0 T10 (mkF m 11 #[vr a1, vr a2, vi (0 : Int32), vi ((31 : Int32) + (f5 y0)), vi (1 : Int32), .unset, .unset] [(.int (2 : Int32)), (.int (1 : Int32))]) := fun t_ k_ => go9 t_ (st10 t_ k_)
  have go12 : Go p e below s₁ F0 T10 (mkF m 23 #[vr a1, vr a2, vi (0 : Int32), vi ((31 : Int32) + (f5 y0)), vi (1 : Int32), .unset, .unset] [(.int (1 : Int32)), (.ref a2), (.int ((31 : Int32) * ((31 : Int32) + (f5 y0))))]) := by
    intro t_ k_
    refine go11 t_ ?_
    refine o_icmpNo X10 hx (hb hby d4_11) (tlt (by decide : (1 : Int32) < (2 : Int32))).2.1 ?_
    refine o_bipush X10 hx (hb hby d4_14) (v := 31) rfl ?_
    refine o_iloadN X10 hx (hb hby d4_16) rfl ?_
    refine o_imul X10 hx (hb hby d4_17) ?_
    refine o_aloadN X10 hx (hb hby d4_18) rfl rfl ?_
    refine o_iloadN X10 hx (hb hby d4_19) rfl ?_
    refine o_iload X10 hx (hb hby d4_20) rfl ?_
    refine o_iaddE X10 hx (hb hby d4_22) (v := 1) rfl ?_
    exact k_
  obtain ⟨cl13, Ar13, -, Sz13, Nn13, Hs13, -⟩ := id V2
  have hin13 : ¬ ((1 : Int32) < 0 ∨ cl13.slots.size ≤ ((1 : Int32)).toNatClampNeg) := inb_of Sz13 ⟨by decide, by decide⟩
  have hat13 : cl13.slots[((1 : Int32)).toNatClampNeg]? = some (.long y1) := Hs13.at hin13 rfl
  have go14 : Go p e below s₁ F0 T10 (mkF m 24 #[vr a1, vr a2, vi (0 : Int32), vi ((31 : Int32) + (f5 y0)), vi (1 : Int32), .unset, .unset] [(.long y1), (.int ((31 : Int32) * ((31 : Int32) + (f5 y0))))]) := by
    intro t_ k_
    refine go12 t_ ?_
    refine o_laload X10 hx hZ e10 Ar13 hin13 hat13 (hb hby d4_23) ?_
    exact k_
  obtain ⟨_, _, ⟨T15, L15, k15, n15⟩, -, X15, ⟨Lc15, hQ15, l15, y15, z15⟩, st15⟩ := Jvm.LawKit.callS X10 hx (y := y_0) hown (mvT hZ (own_w hw 29 rfl)) (mvT hZ (own_w hw 30 rfl)) (mvT hZ (own_w hw 31 rfl)) (mvT hZ (own_w hw 32 rfl)) (by decide) (backOf (W := 1) (rm5 l Z a0 hw [] y1 h0 n0 Z0 ) hZ (own_w hw 32 rfl) (own_w hw 31 rfl) (by decide) (by decide)) (g := (mkF m 24 #[vr a1, vr a2, vi (0 : Int32), vi ((31 : Int32) + (f5 y0)), vi (1 : Int32), .unset, .unset] [(.long y1), (.int ((31 : Int32) * ((31 : Int32) + (f5 y0))))])) rfl (by rw [hml]; rfl) (argsL := [(.long y1)]) (rest := [(.int ((31 : Int32) * ((31 : Int32) + (f5 y0))))]) (lenOf pd4_b2_0 rfl) rfl (by show 2 * 0 + _ ≤ _; exact Nat.le_of_eq rfl) (hb hby d4_24) (fun _ _ => ⟨rfl, e10, (by decide : 0 + 0 ≤ _), (by decide : 0 + 0 ≤ _)⟩)
  dsimp only [Pt.U, Pt.locs, Pt.cells, Pt.slots] at X15 l15 y15 z15 st15 hQ15
  subst l15 y15 z15
  obtain ⟨rfl, Nq15, eh15⟩ := hQ15
  have N15 := Fr.app N7 Nq15
  have go16 : Go p e below s₁ F0 T15 (mkF m 27 #[vr a1, vr a2, vi (0 : Int32), vi ((31 : Int32) + (f5 y0)), vi (1 : Int32), .unset, .unset] [(.int (f5 y1)), (.int ((31 : Int32) * ((31 : Int32) + (f5 y0))))]) := fun t_ k_ => go14 t_ (st15 t_ k_)
  have go17 : Go p e below s₁ F0 T15 (mkF m 8 #[vr a1, vr a2, vi (0 : Int32), vi (((31 : Int32) * ((31 : Int32) + (f5 y0))) + (f5 y1)), vi (2 : Int32), .unset, .unset] [(.ref a1), (.int (2 : Int32))]) := by
    intro t_ k_
    refine go16 t_ ?_
    refine o_iadd X15 hx (hb hby d4_27) ?_
    refine o_istoreN X15 hx (hb hby d4_28) (L' := #[vr a1, vr a2, vi (0 : Int32), vi (((31 : Int32) * ((31 : Int32) + (f5 y0))) + (f5 y1)), vi (1 : Int32), .unset, .unset]) rfl ?_
    refine o_iinc X15 hx (hb hby d4_29) rfl (L' := #[vr a1, vr a2, vi (0 : Int32), vi (((31 : Int32) * ((31 : Int32) + (f5 y0))) + (f5 y1)), vi (2 : Int32), .unset, .unset]) rfl ?_
    refine o_goto X15 hx (hb hby d4_32) (pc' := 5) rfl (by decide) ?_
    refine o_iload X15 hx (hb hby d4_5) rfl ?_
    refine o_aloadN X15 hx (hb hby d4_7) rfl rfl ?_
    exact k_
  obtain ⟨T18, X18, e18, st18⟩ := getF X15 hx hZ hown (host := "") (Or.inl (own_w hw 11 rfl)) Via.refl eh15 Fwi (g := (mkF m 8 #[vr a1, vr a2, vi (0 : Int32), vi (((31 : Int32) * ((31 : Int32) + (f5 y0))) + (f5 y1)), vi (2 : Int32), .unset, .unset] [(.ref a1), (.int (2 : Int32))])) rfl rfl (hb hby d4_8)
  have go19 : Go p e below s₁ F0 T18 (mkF m 11 #[vr a1, vr a2, vi (0 : Int32), vi (((31 : Int32) * ((31 : Int32) + (f5 y0))) + (f5 y1)), vi (2 : Int32), .unset, .unset] [(.int (2 : Int32)), (.int (2 : Int32))]) := fun t_ k_ => go17 t_ (st18 t_ k_)
  have go20 : Go p e below s₁ F0 T18 (mkF m 35 #[vr a1, vr a2, vi (0 : Int32), vi (((31 : Int32) * ((31 : Int32) + (f5 y0))) + (f5 y1)), vi (2 : Int32), .unset, .unset] []) := by
    intro t_ k_
    refine go19 t_ ?_
    refine o_icmpYes X18 hx (hb hby d4_11) (pc' := 35) rfl (by decide) (flt (by decide : ¬ ((2 : Int32) < (2 : Int32)))).2.1 ?_
    exact k_
  obtain ⟨hs2, h_hs2⟩ : ∃ z : Int32, z = (((31 : Int32) * ((31 : Int32) + (f5 y0))) + (f5 y1)) := ⟨_, rfl⟩
  have go21 : Go p e below s₁ F0 T18 (mkF m 35 #[vr a1, vr a2, vi (0 : Int32), vi hs2, vi (2 : Int32), .unset, .unset] []) := by rw [h_hs2]; exact go20
  have go22 : Go p e below s₁ F0 T18 (mkF m 36 #[vr a1, vr a2, vi (0 : Int32), vi hs2, vi (2 : Int32), .unset, .unset] [(.ref a1)]) := by
    intro t_ k_
    refine go21 t_ ?_
    refine o_aloadN X18 hx (hb hby d4_35) rfl rfl ?_
    exact k_
  obtain ⟨T23, X23, e23, st23⟩ := getF X18 hx hZ hown (host := "") (Or.inl (own_w hw 18 rfl)) Via.refl e18 Fsl (g := (mkF m 36 #[vr a1, vr a2, vi (0 : Int32), vi hs2, vi (2 : Int32), .unset, .unset] [(.ref a1)])) rfl rfl (hb hby d4_36)
  have go24 : Go p e below s₁ F0 T23 (mkF m 39 #[vr a1, vr a2, vi (0 : Int32), vi hs2, vi (2 : Int32), .unset, .unset] [(.ref bs)]) := fun t_ k_ => go22 t_ (st23 t_ k_)
  obtain ⟨cl25, Ar25, -, Sz25, Nn25, -, -⟩ := id Vs
  have go26 : Go p e below s₁ F0 T23 (mkF m 47 #[vr a1, vr a2, vi (0 : Int32), vi hs2, vi (31 : Int32), .unset, .unset] [(.int (31 : Int32)), (.int hs2)]) := by
    intro t_ k_
    refine go24 t_ ?_
    refine o_len X23 hx hZ e23 Ar25 Sz25 Nn25 (hb hby d4_39) ?_
    refine o_iconst X23 hx (hb hby d4_40) (v := 1) rfl ?_
    refine o_isubE X23 hx (hb hby d4_41) (v := 31) rfl ?_
    refine o_istore X23 hx (hb hby d4_42) (L' := #[vr a1, vr a2, vi (0 : Int32), vi hs2, vi (31 : Int32), .unset, .unset]) rfl ?_
    refine o_iloadN X23 hx (hb hby d4_44) rfl ?_
    refine o_iload X23 hx (hb hby d4_45) rfl ?_
    exact k_
  obtain ⟨_, _, ⟨T27, L27, k27, n27⟩, -, X27, ⟨Lc27, hQ27, l27, y27, z27⟩, st27⟩ := Jvm.LawKit.callS X23 hx (y := y_1) hown (mvT hZ (own_w hw 33 rfl)) (mvT hZ (own_w hw 34 rfl)) (mvT hZ (own_w hw 4 rfl)) (mvT hZ (own_w hw 35 rfl)) (by decide) (backOf (W := 0) (rm6 l Z a0 hw [] hs2 (31 : Int32) h0 n0 Z0 ) hZ (own_w hw 35 rfl) (own_w hw 4 rfl) (by decide) (by decide)) (g := (mkF m 47 #[vr a1, vr a2, vi (0 : Int32), vi hs2, vi (31 : Int32), .unset, .unset] [(.int (31 : Int32)), (.int hs2)])) rfl (by rw [hml]; rfl) (argsL := [(.int hs2), (.int (31 : Int32))]) (rest := []) (lenOf pd4_b2_1 rfl) rfl (by show 2 * 0 + _ ≤ _; exact Nat.le_of_eq rfl) (hb hby d4_47) (fun _ _ => ⟨rfl, e23, (by decide : 0 + 0 ≤ _), (by decide : 0 + 0 ≤ _)⟩)
  dsimp only [Pt.U, Pt.locs, Pt.cells, Pt.slots] at X27 l27 y27 z27 st27 hQ27
  subst l27 y27 z27
  obtain ⟨rfl, Nq27, eh27⟩ := hQ27
  have N27 := Fr.app N15 Nq27
  have go28 : Go p e below s₁ F0 T27 (mkF m 50 #[vr a1, vr a2, vi (0 : Int32), vi hs2, vi (31 : Int32), .unset, .unset] [(.int (f6 hs2 (31 : Int32)))]) := fun t_ k_ => go26 t_ (st27 t_ k_)
  have go29 : Go p e below s₁ F0 T27 (mkF m 52 #[vr a1, vr a2, vi (0 : Int32), vi hs2, vi (31 : Int32), vi (f6 hs2 (31 : Int32)), .unset] []) := by
    intro t_ k_
    refine go28 t_ ?_
    refine o_istore X27 hx (hb hby d4_50) (L' := #[vr a1, vr a2, vi (0 : Int32), vi hs2, vi (31 : Int32), vi (f6 hs2 (31 : Int32)), .unset]) rfl ?_
    exact k_
  obtain ⟨t, h_t⟩ : ∃ z : Int32, z = (f6 hs2 (31 : Int32)) := ⟨_, rfl⟩
  have go30 : Go p e below s₁ F0 T27 (mkF m 52 #[vr a1, vr a2, vi (0 : Int32), vi hs2, vi (31 : Int32), vi t, .unset] []) := by rw [h_t]; exact go29
  by_cases hb52_31 : t = sl
  · skip
    have go32 : Go p e below s₁ F0 T27 (mkF m 53 #[vr a1, vr a2, vi (0 : Int32), vi hs2, vi (31 : Int32), vi t, .unset] [(.ref a1)]) := by
      intro t_ k_
      refine go30 t_ ?_
      refine o_aloadN X27 hx (hb hby d4_52) rfl rfl ?_
      exact k_
    obtain ⟨T33, X33, e33, st33⟩ := getF X27 hx hZ hown (host := "") (Or.inl (own_w hw 18 rfl)) Via.refl eh27 Fsl (g := (mkF m 53 #[vr a1, vr a2, vi (0 : Int32), vi hs2, vi (31 : Int32), vi t, .unset] [(.ref a1)])) rfl rfl (hb hby d4_53)
    have go34 : Go p e below s₁ F0 T33 (mkF m 56 #[vr a1, vr a2, vi (0 : Int32), vi hs2, vi (31 : Int32), vi t, .unset] [(.ref bs)]) := fun t_ k_ => go32 t_ (st33 t_ k_)
    have go35 : Go p e below s₁ F0 T33 (mkF m 58 #[vr a1, vr a2, vi (0 : Int32), vi hs2, vi (31 : Int32), vi t, .unset] [(.int t), (.ref bs)]) := by
      intro t_ k_
      refine go34 t_ ?_
      refine o_iload X33 hx (hb hby d4_56) rfl ?_
      exact k_
    obtain ⟨cl36, Ar36, -, Sz36, Nn36, Hs36, -⟩ := id Vs
    have hin36 : ¬ (t < 0 ∨ cl36.slots.size ≤ (t).toNatClampNeg) := inb_of Sz36 (own_in h_t)
    have hat36 : cl36.slots[(t).toNatClampNeg]? = some (.int (1 : Int32)) := Hs36.at hin36 (own_hit (own_in hsl) hb52_31)
    have go37 : Go p e below s₁ F0 T33 (mkF m 63 #[vr a1, vr a2, vi (0 : Int32), vi hs2, vi (31 : Int32), vi t, .unset] [(.ref a1)]) := by
      intro t_ k_
      refine go35 t_ ?_
      refine o_iaload X33 hx hZ e33 Ar36 hin36 hat36 (hb hby d4_58) ?_
      refine o_ifNo X33 hx (hb hby d4_59) ((if0 _ _).trans (feq (by decide : ¬ ((1 : Int32) = (0 : Int32)))).1) ?_
      refine o_aloadN X33 hx (hb hby d4_62) rfl rfl ?_
      exact k_
    obtain ⟨T38, X38, e38, st38⟩ := getF X33 hx hZ hown (host := "") (Or.inl (own_w hw 18 rfl)) Via.refl e33 Fsl (g := (mkF m 63 #[vr a1, vr a2, vi (0 : Int32), vi hs2, vi (31 : Int32), vi t, .unset] [(.ref a1)])) rfl rfl (hb hby d4_63)
    have go39 : Go p e below s₁ F0 T38 (mkF m 66 #[vr a1, vr a2, vi (0 : Int32), vi hs2, vi (31 : Int32), vi t, .unset] [(.ref bs)]) := fun t_ k_ => go37 t_ (st38 t_ k_)
    have go40 : Go p e below s₁ F0 T38 (mkF m 68 #[vr a1, vr a2, vi (0 : Int32), vi hs2, vi (31 : Int32), vi t, .unset] [(.int t), (.ref bs)]) := by
      intro t_ k_
      refine go39 t_ ?_
      refine o_iload X38 hx (hb hby d4_66) rfl ?_
      exact k_
    obtain ⟨cl41, Ar41, -, Sz41, Nn41, Hs41, -⟩ := id Vs
    have hin41 : ¬ (t < 0 ∨ cl41.slots.size ≤ (t).toNatClampNeg) := inb_of Sz41 (own_in h_t)
    have hat41 : cl41.slots[(t).toNatClampNeg]? = some (.int (1 : Int32)) := Hs41.at hin41 (own_hit (own_in hsl) hb52_31)
    have go42 : Go p e below s₁ F0 T38 (mkF m 74 #[vr a1, vr a2, vi (0 : Int32), vi hs2, vi (31 : Int32), vi t, vi (0 : Int32)] [(.ref a1)]) := by
      intro t_ k_
      refine go40 t_ ?_
      refine o_iaload X38 hx hZ e38 Ar41 hin41 hat41 (hb hby d4_68) ?_
      refine o_iconst X38 hx (hb hby d4_69) (v := 1) rfl ?_
      refine o_isubE X38 hx (hb hby d4_70) (v := 0) rfl ?_
      refine o_istore X38 hx (hb hby d4_71) (L' := #[vr a1, vr a2, vi (0 : Int32), vi hs2, vi (31 : Int32), vi t, vi (0 : Int32)]) rfl ?_
      refine o_aloadN X38 hx (hb hby d4_73) rfl rfl ?_
      exact k_
    obtain ⟨T43, X43, e43, st43⟩ := getF X38 hx hZ hown (host := "") (Or.inl (own_w hw 16 rfl)) Via.refl e38 Fha (g := (mkF m 74 #[vr a1, vr a2, vi (0 : Int32), vi hs2, vi (31 : Int32), vi t, vi (0 : Int32)] [(.ref a1)])) rfl rfl (hb hby d4_74)
    have go44 : Go p e below s₁ F0 T43 (mkF m 77 #[vr a1, vr a2, vi (0 : Int32), vi hs2, vi (31 : Int32), vi t, vi (0 : Int32)] [(.ref bh)]) := fun t_ k_ => go42 t_ (st43 t_ k_)
    have go45 : Go p e below s₁ F0 T43 (mkF m 79 #[vr a1, vr a2, vi (0 : Int32), vi hs2, vi (31 : Int32), vi t, vi (0 : Int32)] [(.int (0 : Int32)), (.ref bh)]) := by
      intro t_ k_
      refine go44 t_ ?_
      refine o_iload X43 hx (hb hby d4_77) rfl ?_
      exact k_
    obtain ⟨cl46, Ar46, -, Sz46, Nn46, Hs46, -⟩ := id Vh
    have hin46 : ¬ ((0 : Int32) < 0 ∨ cl46.slots.size ≤ ((0 : Int32)).toNatClampNeg) := inb_of Sz46 ⟨by decide, by decide⟩
    have hat46 : cl46.slots[((0 : Int32)).toNatClampNeg]? = some (.int hs) := Hs46.at hin46 rfl
    have go47 : Go p e below s₁ F0 T43 (mkF m 81 #[vr a1, vr a2, vi (0 : Int32), vi hs2, vi (31 : Int32), vi t, vi (0 : Int32)] [(.int hs2), (.int hs)]) := by
      intro t_ k_
      refine go45 t_ ?_
      refine o_iaload X43 hx hZ e43 Ar46 hin46 hat46 (hb hby d4_79) ?_
      refine o_iloadN X43 hx (hb hby d4_80) rfl ?_
      exact k_
    by_cases hc81_48 : hs = hs2
    · skip
      have go49 : Go p e below s₁ F0 T43 (mkF m 89 #[vr a1, vr a2, vi (0 : Int32), vi hs2, vi (31 : Int32), vi t, vi (0 : Int32)] [(.int (0 : Int32)), (.ref a2), (.int (0 : Int32)), (.ref a1)]) := by
        intro t_ k_
        refine go47 t_ ?_
        refine o_icmpNo X43 hx (hb hby d4_81) (teq hc81_48).2 ?_
        refine o_aloadN X43 hx (hb hby d4_84) rfl rfl ?_
        refine o_iload X43 hx (hb hby d4_85) rfl ?_
        refine o_aloadN X43 hx (hb hby d4_87) rfl rfl ?_
        refine o_iloadN X43 hx (hb hby d4_88) rfl ?_
        exact k_
      obtain ⟨cq50, q50, q50'⟩ := E0.cell
      obtain ⟨_, _, ⟨T50, L50, k50, n50⟩, -, X50, ⟨Lc50, hQ50, l50, y50, z50⟩, st50⟩ := X43.privateBack hx (y := y_5) hown (mvT hZ (own_w hw 43 rfl)) (mvT hZ (own_w hw 44 rfl)) (own_selp (mvT hZ (own_w hw 3 rfl)) (mvP hZ (own_w hw 45 rfl)) (mvT hZ (own_w hw 44 rfl)) (by decide)) (Cond.privateMethod_at (mvP hZ (own_w hw 45 rfl) (args := #[]))) (mvT hZ (own_w hw 46 rfl)) (by decide) (backOf (W := 0) (rm7_2 l Z a0 hw [] a1 a2 bw kw k2 x0 x1 y0 y1 h0 n0 Z0 Fwi Fwo Vw V2) hZ (own_w hw 46 rfl) (own_w hw 4 rfl) (by decide) (by decide)) (g := (mkF m 89 #[vr a1, vr a2, vi (0 : Int32), vi hs2, vi (31 : Int32), vi t, vi (0 : Int32)] [(.int (0 : Int32)), (.ref a2), (.int (0 : Int32)), (.ref a1)])) rfl (by rw [hml]; rfl) (Steps.refl _) (a := a1) (by rw [e43]; exact q50) q50' (argsL := [(.int (0 : Int32)), (.ref a2), (.int (0 : Int32))]) (rest := []) (lenOf pd4_b2_2 rfl) rfl (by show 2 * 0 + _ ≤ _; exact Nat.le_of_eq rfl) (hb hby d4_89) (fun _ _ => ⟨rfl, e43, (by decide : 0 + 0 ≤ _), (by decide : 0 + 0 ≤ _)⟩)
      dsimp only [Pt.U, Pt.locs, Pt.cells, Pt.slots] at X50 l50 y50 z50 st50 hQ50
      subst l50 y50 z50
      obtain ⟨rfl, Nq50, eh50⟩ := hQ50
      have N50 := Fr.app N27 Nq50
      have go51 : Go p e below s₁ F0 T50 (mkF m 92 #[vr a1, vr a2, vi (0 : Int32), vi hs2, vi (31 : Int32), vi t, vi (0 : Int32)] [(.int (f7_2 x0 x1 y0 y1))]) := fun t_ k_ => go49 t_ (st50.trans k_)
      by_cases hc92_52 : (f7_2 x0 x1 y0 y1) = (0 : Int32)
      · skip
        have go54 : Go p e below s₁ F0 T50 (mkF m 52 #[vr a1, vr a2, vi (0 : Int32), vi hs2, vi (31 : Int32), vi ((t + (1 : Int32)) &&& (31 : Int32)), vi (0 : Int32)] []) := by
          intro t_ k_
          refine go51 t_ ?_
          refine o_ifYes X50 hx (hb hby d4_92) (pc' := 98) rfl (by decide) ((if0 _ _).trans (teq hc92_52).1) ?_
          refine o_iload X50 hx (hb hby d4_98) rfl ?_
          refine o_iconst X50 hx (hb hby d4_100) (v := 1) rfl ?_
          refine o_iadd X50 hx (hb hby d4_101) ?_
          refine o_iload X50 hx (hb hby d4_102) rfl ?_
          refine o_iand X50 hx (hb hby d4_104) ?_
          refine o_istore X50 hx (hb hby d4_105) (L' := #[vr a1, vr a2, vi (0 : Int32), vi hs2, vi (31 : Int32), vi ((t + (1 : Int32)) &&& (31 : Int32)), vi (0 : Int32)]) rfl ?_
          refine o_goto X50 hx (hb hby d4_107) (pc' := 52) rfl (by decide) ?_
          exact k_
        obtain ⟨t53, h_t53⟩ : ∃ z : Int32, z = ((t + (1 : Int32)) &&& (31 : Int32)) := ⟨_, rfl⟩
        have go55 : Go p e below s₁ F0 T50 (mkF m 52 #[vr a1, vr a2, vi (0 : Int32), vi hs2, vi (31 : Int32), vi t53, vi (0 : Int32)] []) := by rw [h_t53]; exact go54
        have go56 : Go p e below s₁ F0 T50 (mkF m 53 #[vr a1, vr a2, vi (0 : Int32), vi hs2, vi (31 : Int32), vi t53, vi (0 : Int32)] [(.ref a1)]) := by
          intro t_ k_
          refine go55 t_ ?_
          refine o_aloadN X50 hx (hb hby d4_52) rfl rfl ?_
          exact k_
        obtain ⟨T57, X57, e57, st57⟩ := getF X50 hx hZ hown (host := "") (Or.inl (own_w hw 18 rfl)) Via.refl eh50 Fsl (g := (mkF m 53 #[vr a1, vr a2, vi (0 : Int32), vi hs2, vi (31 : Int32), vi t53, vi (0 : Int32)] [(.ref a1)])) rfl rfl (hb hby d4_53)
        have go58 : Go p e below s₁ F0 T57 (mkF m 56 #[vr a1, vr a2, vi (0 : Int32), vi hs2, vi (31 : Int32), vi t53, vi (0 : Int32)] [(.ref bs)]) := fun t_ k_ => go56 t_ (st57 t_ k_)
        have go59 : Go p e below s₁ F0 T57 (mkF m 58 #[vr a1, vr a2, vi (0 : Int32), vi hs2, vi (31 : Int32), vi t53, vi (0 : Int32)] [(.int t53), (.ref bs)]) := by
          intro t_ k_
          refine go58 t_ ?_
          refine o_iload X57 hx (hb hby d4_56) rfl ?_
          exact k_
        obtain ⟨cl60, Ar60, -, Sz60, Nn60, Hs60, -⟩ := id Vs
        have hin60 : ¬ (t53 < 0 ∨ cl60.slots.size ≤ (t53).toNatClampNeg) := inb_of Sz60 (own_in2 h_t53)
        have hat60 : cl60.slots[(t53).toNatClampNeg]? = some (.int (0 : Int32)) := Hs60.at hin60 (own_miss (own_in2 h_t53) (own_in hsl) (own_next (own_in hsl) hb52_31 h_t53))
        have go61 : Go p e below s₁ F0 T57 (mkF m 112 #[vr a1, vr a2, vi (0 : Int32), vi hs2, vi (31 : Int32), vi t53, vi (0 : Int32)] [(.ref a1), (.ref a1)]) := by
          intro t_ k_
          refine go59 t_ ?_
          refine o_iaload X57 hx hZ e57 Ar60 hin60 hat60 (hb hby d4_58) ?_
          refine o_ifYes X57 hx (hb hby d4_59) (pc' := 110) rfl (by decide) ((if0 _ _).trans (teq (by decide : (0 : Int32) = (0 : Int32))).1) ?_
          refine o_aloadN X57 hx (hb hby d4_110) rfl rfl ?_
          refine o_dup X57 hx (hb hby d4_111) rfl ?_
          exact k_
        obtain ⟨T62, X62, e62, st62⟩ := getF X57 hx hZ hown (host := "") (Or.inl (own_w hw 37 rfl)) Via.refl e57 Fco (g := (mkF m 112 #[vr a1, vr a2, vi (0 : Int32), vi hs2, vi (31 : Int32), vi t53, vi (0 : Int32)] [(.ref a1), (.ref a1)])) rfl rfl (hb hby d4_112)
        have go63 : Go p e below s₁ F0 T62 (mkF m 115 #[vr a1, vr a2, vi (0 : Int32), vi hs2, vi (31 : Int32), vi t53, vi (0 : Int32)] [(.int (1 : Int32)), (.ref a1)]) := fun t_ k_ => go61 t_ (st62 t_ k_)
        have go64 : Go p e below s₁ F0 T62 (mkF m 118 #[vr a1, vr a2, vi (0 : Int32), vi hs2, vi (31 : Int32), vi t53, vi (0 : Int32)] [(.int (2 : Int32)), (.ref a1), (.int (1 : Int32))]) := by
          intro t_ k_
          refine go63 t_ ?_
          refine o_dupX1 X62 hx (hb hby d4_115) rfl rfl ?_
          refine o_iconst X62 hx (hb hby d4_116) (v := 1) rfl ?_
          refine o_iaddE X62 hx (hb hby d4_117) (v := 2) rfl ?_
          exact k_
        obtain ⟨T65, h65, X65, e65, W65, st65⟩ := putF X62 hx hZ hown (host := "") (Or.inl (own_w hw 37 rfl)) Via.refl e62 Fco E0 (Or.inl (own_w hw 38 rfl)) (own_w hw 3 rfl) (ty := .int) (by decide) rfl rfl (g := (mkF m 118 #[vr a1, vr a2, vi (0 : Int32), vi hs2, vi (31 : Int32), vi t53, vi (0 : Int32)] [(.int (2 : Int32)), (.ref a1), (.int (1 : Int32))])) rfl rfl (hb hby d4_118)
        have Fw65 : Fld Z h65 a1 c_0 "count" "I" (.int (2 : Int32)) := Fld.same W65 Fco
        have K66 : Keep h0 h65 [a1, bw, bh, bs] := K0.wr W65 (Or.inl (List.mem_of_getElem? (i := 0) rfl))
        have Z66 : n0 ≤ h65.size := Nat.le_trans Z0 (Keep.of_wr W65).1
        have N65 := Fr.snoc X65 N50 g1
        have go67 : Go p e below s₁ F0 T65 (mkF m 121 #[vr a1, vr a2, vi (0 : Int32), vi hs2, vi (31 : Int32), vi t53, vi (0 : Int32)] [(.int (1 : Int32))]) := fun t_ k_ => go64 t_ (st65 t_ k_)
        have F68 : Fld Z h65 a1 c_0 "hashes" "[I" (.ref bh) := (Fha.other W65 (Or.inr (slot_ne (Or.inl (own_w hw 17 rfl)) (Or.inl (own_w hw 38 rfl)) (by decide) (t := (.array .int)) (t' := .int) (by decide) (by decide))))
        have go69 : Go p e below s₁ F0 T65 (mkF m 126 #[vr a1, vr a2, vi (0 : Int32), vi hs2, vi (31 : Int32), vi t53, vi (1 : Int32)] [(.ref a1), (.int (1 : Int32))]) := by
          intro t_ k_
          refine go67 t_ ?_
          refine o_istore X65 hx (hb hby d4_121) (L' := #[vr a1, vr a2, vi (0 : Int32), vi hs2, vi (31 : Int32), vi t53, vi (1 : Int32)]) rfl ?_
          refine o_iload X65 hx (hb hby d4_123) rfl ?_
          refine o_aloadN X65 hx (hb hby d4_125) rfl rfl ?_
          exact k_
        obtain ⟨T70, X70, e70, st70⟩ := getF X65 hx hZ hown (host := "") (Or.inl (own_w hw 16 rfl)) Via.refl e65 F68 (g := (mkF m 126 #[vr a1, vr a2, vi (0 : Int32), vi hs2, vi (31 : Int32), vi t53, vi (1 : Int32)] [(.ref a1), (.int (1 : Int32))])) rfl rfl (hb hby d4_126)
        have go71 : Go p e below s₁ F0 T70 (mkF m 129 #[vr a1, vr a2, vi (0 : Int32), vi hs2, vi (31 : Int32), vi t53, vi (1 : Int32)] [(.ref bh), (.int (1 : Int32))]) := fun t_ k_ => go69 t_ (st70 t_ k_)
        have F72 : Arv Z h65 bh kh .int (16 : Int32) ((.int hs) :: own_zi 15) (.int (0 : Int32)) := (Vh.other W65 (Ne.symm nah))
        obtain ⟨cl73, Ar73, -, Sz73, Nn73, -, -⟩ := id F72
        have F74 : Fld Z h65 a1 c_0 "words" "[J" (.ref bw) := (Fwo.other W65 (Or.inr (slot_ne (Or.inl (own_w hw 14 rfl)) (Or.inl (own_w hw 38 rfl)) (by decide) (t := (.array .long)) (t' := .int) (by decide) (by decide))))
        have go75 : Go p e below s₁ F0 T70 (mkF m 171 #[vr a1, vr a2, vi (0 : Int32), vi hs2, vi (31 : Int32), vi t53, vi (1 : Int32)] [(.ref a1), (.int (0 : Int32)), (.ref a2)]) := by
          intro t_ k_
          refine go71 t_ ?_
          refine o_len X70 hx hZ e70 Ar73 Sz73 Nn73 (hb hby d4_129) ?_
          refine o_icmpYes X70 hx (hb hby d4_130) (pc' := 168) rfl (by decide) (feq (by decide : ¬ ((1 : Int32) = (16 : Int32)))).2 ?_
          refine o_aloadN X70 hx (hb hby d4_168) rfl rfl ?_
          refine o_iloadN X70 hx (hb hby d4_169) rfl ?_
          refine o_aloadN X70 hx (hb hby d4_170) rfl rfl ?_
          exact k_
        obtain ⟨T76, X76, e76, st76⟩ := getF X70 hx hZ hown (host := "") (Or.inl (own_w hw 13 rfl)) Via.refl e70 F74 (g := (mkF m 171 #[vr a1, vr a2, vi (0 : Int32), vi hs2, vi (31 : Int32), vi t53, vi (1 : Int32)] [(.ref a1), (.int (0 : Int32)), (.ref a2)])) rfl rfl (hb hby d4_171)
        have go77 : Go p e below s₁ F0 T76 (mkF m 174 #[vr a1, vr a2, vi (0 : Int32), vi hs2, vi (31 : Int32), vi t53, vi (1 : Int32)] [(.ref bw), (.int (0 : Int32)), (.ref a2)]) := fun t_ k_ => go75 t_ (st76 t_ k_)
        have F78 : Fld Z h65 a1 c_0 "width" "I" (.int (2 : Int32)) := (Fwi.other W65 (Or.inr (slot_ne (Or.inr (own_w hw 12 rfl)) (Or.inl (own_w hw 38 rfl)) (by decide) (t := .int) (t' := .int) (by decide) (by decide))))
        have go79 : Go p e below s₁ F0 T76 (mkF m 177 #[vr a1, vr a2, vi (0 : Int32), vi hs2, vi (31 : Int32), vi t53, vi (1 : Int32)] [(.ref a1), (.int (1 : Int32)), (.ref bw), (.int (0 : Int32)), (.ref a2)]) := by
          intro t_ k_
          refine go77 t_ ?_
          refine o_iload X76 hx (hb hby d4_174) rfl ?_
          refine o_aloadN X76 hx (hb hby d4_176) rfl rfl ?_
          exact k_
        obtain ⟨T80, X80, e80, st80⟩ := getF X76 hx hZ hown (host := "") (Or.inl (own_w hw 11 rfl)) Via.refl e76 F78 (g := (mkF m 177 #[vr a1, vr a2, vi (0 : Int32), vi hs2, vi (31 : Int32), vi t53, vi (1 : Int32)] [(.ref a1), (.int (1 : Int32)), (.ref bw), (.int (0 : Int32)), (.ref a2)])) rfl rfl (hb hby d4_177)
        have go81 : Go p e below s₁ F0 T80 (mkF m 180 #[vr a1, vr a2, vi (0 : Int32), vi hs2, vi (31 : Int32), vi t53, vi (1 : Int32)] [(.int (2 : Int32)), (.int (1 : Int32)), (.ref bw), (.int (0 : Int32)), (.ref a2)]) := fun t_ k_ => go79 t_ (st80 t_ k_)
        have go82 : Go p e below s₁ F0 T80 (mkF m 182 #[vr a1, vr a2, vi (0 : Int32), vi hs2, vi (31 : Int32), vi t53, vi (1 : Int32)] [(.ref a1), (.int (2 : Int32)), (.ref bw), (.int (0 : Int32)), (.ref a2)]) := by
          intro t_ k_
          refine go81 t_ ?_
          refine o_imulE X80 hx (hb hby d4_180) (v := 2) rfl ?_
          refine o_aloadN X80 hx (hb hby d4_181) rfl rfl ?_
          exact k_
        obtain ⟨T83, X83, e83, st83⟩ := getF X80 hx hZ hown (host := "") (Or.inl (own_w hw 11 rfl)) Via.refl e80 F78 (g := (mkF m 182 #[vr a1, vr a2, vi (0 : Int32), vi hs2, vi (31 : Int32), vi t53, vi (1 : Int32)] [(.ref a1), (.int (2 : Int32)), (.ref bw), (.int (0 : Int32)), (.ref a2)])) rfl rfl (hb hby d4_182)
        have go84 : Go p e below s₁ F0 T83 (mkF m 185 #[vr a1, vr a2, vi (0 : Int32), vi hs2, vi (31 : Int32), vi t53, vi (1 : Int32)] [(.int (2 : Int32)), (.int (2 : Int32)), (.ref bw), (.int (0 : Int32)), (.ref a2)]) := fun t_ k_ => go82 t_ (st83 t_ k_)
        have F85 : Arv Z h65 a2 k2 .long (2 : Int32) [(.long y0), (.long y1)] (.long (0 : Int64)) := (V2.other W65 (Ne.symm n12))
        have F86 : Arv Z h65 bw kw .long (32 : Int32) ((.long x0) :: (.long x1) :: own_zl 30) (.long (0 : Int64)) := (Vw.other W65 (Ne.symm naw))
        obtain ⟨T87, h87, L87, X87, e87, N87, Kc87, Vc87, st87⟩ := cpA X83 hx hZ hown (own_w hw 39 rfl) (own_w hw 42 rfl) (own_w hw 40 rfl) (own_w hw 41 rfl) e83 F85 F86 (Or.inl ⟨rfl, rfl⟩) (by decide) (by decide) (by decide) (by decide) (by decide) (us := [(.long y0), (.long y1)]) rfl (Nat.le_of_ble_eq_true rfl) N65 gw (g := (mkF m 185 #[vr a1, vr a2, vi (0 : Int32), vi hs2, vi (31 : Int32), vi t53, vi (1 : Int32)] [(.int (2 : Int32)), (.int (2 : Int32)), (.ref bw), (.int (0 : Int32)), (.ref a2)])) rfl (by rw [hml]; rfl) rfl (hb hby d4_185) (by decide) (W := 0) (by show 2 * 0 + _ ≤ _; exact Nat.le_of_eq rfl) (by decide)
        have V87 : Arv Z h87 bw kw .long (32 : Int32) ((.long x0) :: (.long x1) :: (.long y0) :: (.long y1) :: own_zl 28) (.long (0 : Int64)) := Vc87
        have K88 : Keep h0 h87 [a1, bw, bh, bs] := K66.trans Kc87 (allS (Or.inl (List.mem_of_getElem? (i := 1) rfl)) all0)
        have Z88 : n0 ≤ h87.size := Nat.le_trans Z66 Kc87.1
        have go89 : Go p e below s₁ F0 T87 (mkF m 188 #[vr a1, vr a2, vi (0 : Int32), vi hs2, vi (31 : Int32), vi t53, vi (1 : Int32)] []) := fun t_ k_ => go84 t_ (st87 t_ k_)
        have F90 : Fld Z h87 a1 c_0 "hashes" "[I" (.ref bh) := (F68.keep Kc87 (ninS naw nin0))
        have go91 : Go p e below s₁ F0 T87 (mkF m 189 #[vr a1, vr a2, vi (0 : Int32), vi hs2, vi (31 : Int32), vi t53, vi (1 : Int32)] [(.ref a1)]) := by
          intro t_ k_
          refine go89 t_ ?_
          refine o_aloadN X87 hx (hb hby d4_188) rfl rfl ?_
          exact k_
        obtain ⟨T92, X92, e92, st92⟩ := getF X87 hx hZ hown (host := "") (Or.inl (own_w hw 16 rfl)) Via.refl e87 F90 (g := (mkF m 189 #[vr a1, vr a2, vi (0 : Int32), vi hs2, vi (31 : Int32), vi t53, vi (1 : Int32)] [(.ref a1)])) rfl rfl (hb hby d4_189)
        have go93 : Go p e below s₁ F0 T92 (mkF m 192 #[vr a1, vr a2, vi (0 : Int32), vi hs2, vi (31 : Int32), vi t53, vi (1 : Int32)] [(.ref bh)]) := fun t_ k_ => go91 t_ (st92 t_ k_)
        have F94 : Arv Z h87 bh kh .int (16 : Int32) ((.int hs) :: own_zi 15) (.int (0 : Int32)) := (F72.keep Kc87 (ninS (Ne.symm nwh) nin0))
        have go95 : Go p e below s₁ F0 T92 (mkF m 195 #[vr a1, vr a2, vi (0 : Int32), vi hs2, vi (31 : Int32), vi t53, vi (1 : Int32)] [(.int hs2), (.int (1 : Int32)), (.ref bh)]) := by
          intro t_ k_
          refine go93 t_ ?_
          refine o_iload X92 hx (hb hby d4_192) rfl ?_
          refine o_iloadN X92 hx (hb hby d4_194) rfl ?_
          exact k_
        obtain ⟨cl96, Ar96, q96, Sz96, Nn96, Hs96, G96⟩ := id F94
        have hin96 : ¬ ((1 : Int32) < 0 ∨ cl96.slots.size ≤ ((1 : Int32)).toNatClampNeg) := inb_of Sz96 ⟨by decide, by decide⟩
        obtain ⟨T96, h96, X96, e96, W96, st96⟩ := stI X92 hx hZ e92 Ar96 (j := (1 : Int32)) hin96 (g := (mkF m 195 #[vr a1, vr a2, vi (0 : Int32), vi hs2, vi (31 : Int32), vi t53, vi (1 : Int32)] [(.int hs2), (.int (1 : Int32)), (.ref bh)])) rfl rfl (hb hby d4_195)
        have V96 : Arv Z h96 bh kh .int (16 : Int32) ((.int hs) :: (.int hs2) :: own_zi 14) (.int (0 : Int32)) := Arv.set Ar96 q96 Sz96 Nn96 Hs96 G96 rfl W96 1 rfl (Nat.le_of_ble_eq_true rfl)
        have K97 : Keep h0 h96 [a1, bw, bh, bs] := K88.wr W96 (Or.inl (List.mem_of_getElem? (i := 2) rfl))
        have Z97 : n0 ≤ h96.size := Nat.le_trans Z88 (Keep.of_wr W96).1
        have N96 := Fr.snoc X96 N87 gh
        have go98 : Go p e below s₁ F0 T96 (mkF m 196 #[vr a1, vr a2, vi (0 : Int32), vi hs2, vi (31 : Int32), vi t53, vi (1 : Int32)] []) := fun t_ k_ => go95 t_ (st96 t_ k_)
        have F99 : Fld Z h96 a1 c_0 "slots" "[I" (.ref bs) := (((Fsl.other W65 (Or.inr (slot_ne (Or.inl (own_w hw 19 rfl)) (Or.inl (own_w hw 38 rfl)) (by decide) (t := (.array .int)) (t' := .int) (by decide) (by decide)))).keep Kc87 (ninS naw nin0)).other W96 (Or.inl nah))
        have go100 : Go p e below s₁ F0 T96 (mkF m 197 #[vr a1, vr a2, vi (0 : Int32), vi hs2, vi (31 : Int32), vi t53, vi (1 : Int32)] [(.ref a1)]) := by
          intro t_ k_
          refine go98 t_ ?_
          refine o_aloadN X96 hx (hb hby d4_196) rfl rfl ?_
          exact k_
        obtain ⟨T101, X101, e101, st101⟩ := getF X96 hx hZ hown (host := "") (Or.inl (own_w hw 18 rfl)) Via.refl e96 F99 (g := (mkF m 197 #[vr a1, vr a2, vi (0 : Int32), vi hs2, vi (31 : Int32), vi t53, vi (1 : Int32)] [(.ref a1)])) rfl rfl (hb hby d4_197)
        have go102 : Go p e below s₁ F0 T101 (mkF m 200 #[vr a1, vr a2, vi (0 : Int32), vi hs2, vi (31 : Int32), vi t53, vi (1 : Int32)] [(.ref bs)]) := fun t_ k_ => go100 t_ (st101 t_ k_)
        have F103 : Arv Z h96 bs ks .int (32 : Int32) (own_sl sl) (.int (0 : Int32)) := (((Vs.other W65 (Ne.symm nas)).keep Kc87 (ninS (Ne.symm nws) nin0)).other W96 (Ne.symm nhs))
        have go104 : Go p e below s₁ F0 T101 (mkF m 206 #[vr a1, vr a2, vi (0 : Int32), vi hs2, vi (31 : Int32), vi t53, vi (1 : Int32)] [(.int (2 : Int32)), (.int t53), (.ref bs)]) := by
          intro t_ k_
          refine go102 t_ ?_
          refine o_iload X101 hx (hb hby d4_200) rfl ?_
          refine o_iload X101 hx (hb hby d4_202) rfl ?_
          refine o_iconst X101 hx (hb hby d4_204) (v := 1) rfl ?_
          refine o_iaddE X101 hx (hb hby d4_205) (v := 2) rfl ?_
          exact k_
        obtain ⟨cl105, Ar105, q105, Sz105, Nn105, Hs105, G105⟩ := id F103
        have hin105 : ¬ (t53 < 0 ∨ cl105.slots.size ≤ (t53).toNatClampNeg) := inb_of Sz105 (own_in2 h_t53)
        obtain ⟨T105, h105, X105, e105, W105, st105⟩ := stI X101 hx hZ e101 Ar105 (j := t53) hin105 (g := (mkF m 206 #[vr a1, vr a2, vi (0 : Int32), vi hs2, vi (31 : Int32), vi t53, vi (1 : Int32)] [(.int (2 : Int32)), (.int t53), (.ref bs)])) rfl rfl (hb hby d4_206)
        have V105 : Arv Z h105 bs ks .int (32 : Int32) ((own_sl sl).set t53.toNatClampNeg (.int (2 : Int32))) (.int (0 : Int32)) := Arv.set Ar105 q105 Sz105 Nn105 Hs105 G105 rfl W105 t53.toNatClampNeg rfl (own_ls (own_in2 h_t53))
        have K106 : Keep h0 h105 [a1, bw, bh, bs] := K97.wr W105 (Or.inl (List.mem_of_getElem? (i := 3) rfl))
        have Z106 : n0 ≤ h105.size := Nat.le_trans Z97 (Keep.of_wr W105).1
        have N105 := Fr.snoc X105 N96 gs
        have go107 : Go p e below s₁ F0 T105 (mkF m 207 #[vr a1, vr a2, vi (0 : Int32), vi hs2, vi (31 : Int32), vi t53, vi (1 : Int32)] []) := fun t_ k_ => go104 t_ (st105 t_ k_)
        have F108 : Fld Z h105 a1 c_0 "count" "I" (.int (2 : Int32)) := (((Fw65.keep Kc87 (ninS naw nin0)).other W96 (Or.inl nah)).other W105 (Or.inl nas))
        have go109 : Go p e below s₁ F0 T105 (mkF m 209 #[vr a1, vr a2, vi (0 : Int32), vi hs2, vi (31 : Int32), vi t53, vi (1 : Int32)] [(.ref a1), (.int (2 : Int32))]) := by
          intro t_ k_
          refine go107 t_ ?_
          refine o_iconst X105 hx (hb hby d4_207) (v := 2) rfl ?_
          refine o_aloadN X105 hx (hb hby d4_208) rfl rfl ?_
          exact k_
        obtain ⟨T110, X110, e110, st110⟩ := getF X105 hx hZ hown (host := "") (Or.inl (own_w hw 37 rfl)) Via.refl e105 F108 (g := (mkF m 209 #[vr a1, vr a2, vi (0 : Int32), vi hs2, vi (31 : Int32), vi t53, vi (1 : Int32)] [(.ref a1), (.int (2 : Int32))])) rfl rfl (hb hby d4_209)
        have go111 : Go p e below s₁ F0 T110 (mkF m 212 #[vr a1, vr a2, vi (0 : Int32), vi hs2, vi (31 : Int32), vi t53, vi (1 : Int32)] [(.int (2 : Int32)), (.int (2 : Int32))]) := fun t_ k_ => go109 t_ (st110 t_ k_)
        have F112 : Fld Z h105 a1 c_0 "slots" "[I" (.ref bs) := (F99.other W105 (Or.inl nas))
        have go113 : Go p e below s₁ F0 T110 (mkF m 214 #[vr a1, vr a2, vi (0 : Int32), vi hs2, vi (31 : Int32), vi t53, vi (1 : Int32)] [(.ref a1), (.int (4 : Int32))]) := by
          intro t_ k_
          refine go111 t_ ?_
          refine o_imulE X110 hx (hb hby d4_212) (v := 4) rfl ?_
          refine o_aloadN X110 hx (hb hby d4_213) rfl rfl ?_
          exact k_
        obtain ⟨T114, X114, e114, st114⟩ := getF X110 hx hZ hown (host := "") (Or.inl (own_w hw 18 rfl)) Via.refl e110 F112 (g := (mkF m 214 #[vr a1, vr a2, vi (0 : Int32), vi hs2, vi (31 : Int32), vi t53, vi (1 : Int32)] [(.ref a1), (.int (4 : Int32))])) rfl rfl (hb hby d4_214)
        have go115 : Go p e below s₁ F0 T114 (mkF m 217 #[vr a1, vr a2, vi (0 : Int32), vi hs2, vi (31 : Int32), vi t53, vi (1 : Int32)] [(.ref bs), (.int (4 : Int32))]) := fun t_ k_ => go113 t_ (st114 t_ k_)
        obtain ⟨cl116, Ar116, -, Sz116, Nn116, -, -⟩ := id V105
        have go117 : Go p e below s₁ F0 T114 (mkF m 227 #[vr a1, vr a2, vi (0 : Int32), vi hs2, vi (31 : Int32), vi t53, vi (1 : Int32)] [(.int (1 : Int32))]) := by
          intro t_ k_
          refine go115 t_ ?_
          refine o_len X114 hx hZ e114 Ar116 Sz116 Nn116 (hb hby d4_217) ?_
          refine o_icmpYes X114 hx (hb hby d4_218) (pc' := 225) rfl (by decide) (flt (by decide : ¬ ((32 : Int32) < (4 : Int32)))).2.2.2 ?_
          refine o_iload X114 hx (hb hby d4_225) rfl ?_
          exact k_
        obtain ⟨fs, hr, hrun, hended, hW, hsame⟩ := X114.leave (v := some (.int (1 : Int32))) (fun h => by rw [Bd.returns] at h; cases h)
        refine ⟨_, _, pre0 _ (go117 _ ?_), hrun, hended, _, _, rfl, ?_, ⟨_, rfl⟩, hW, hsame.mono (by decide) (by decide)⟩
        · skip
          exact retI X114 hx Bd.returns (hb hby d4_227) hr
        · show Q4_b2 Z a1 a2 bw bh bs kw kh ks k2 hs sl x0 x1 y0 y1 h0 n0 _ T114.heap _
          rw [e114]
          have F118 : Fld Z h105 a1 c_0 "width" "I" (.int (2 : Int32)) := (((F78.keep Kc87 (ninS naw nin0)).other W96 (Or.inl nah)).other W105 (Or.inl nas))
          have F119 : Fld Z h105 a1 c_0 "words" "[J" (.ref bw) := (((F74.keep Kc87 (ninS naw nin0)).other W96 (Or.inl nah)).other W105 (Or.inl nas))
          have F120 : Arv Z h105 bw kw .long (32 : Int32) ((.long x0) :: (.long x1) :: (.long y0) :: (.long y1) :: own_zl 28) (.long (0 : Int64)) := ((V87.other W96 nwh).other W105 nws)
          exact ⟨(1 : Int32), y0, y1, rfl, N105, K106, F118, F119, F120, (Or.inr ⟨rfl, (own_neW_2 hc92_52), rfl, rfl⟩)⟩
      · skip
        have go121 : Go p e below s₁ F0 T50 (mkF m 97 #[vr a1, vr a2, vi (0 : Int32), vi hs2, vi (31 : Int32), vi t, vi (0 : Int32)] [(.int (0 : Int32))]) := by
          intro t_ k_
          refine go51 t_ ?_
          refine o_ifNo X50 hx (hb hby d4_92) ((if0 _ _).trans (feq hc92_52).1) ?_
          refine o_iload X50 hx (hb hby d4_95) rfl ?_
          exact k_
        obtain ⟨fs, hr, hrun, hended, hW, hsame⟩ := X50.leave (v := some (.int (0 : Int32))) (fun h => by rw [Bd.returns] at h; cases h)
        refine ⟨_, _, pre0 _ (go121 _ ?_), hrun, hended, _, _, rfl, ?_, ⟨_, rfl⟩, hW, hsame.mono (by decide) (by decide)⟩
        · skip
          exact retI X50 hx Bd.returns (hb hby d4_97) hr
        · show Q4_b2 Z a1 a2 bw bh bs kw kh ks k2 hs sl x0 x1 y0 y1 h0 n0 _ T50.heap _
          rw [eh50]
          exact ⟨(0 : Int32), (0 : Int64), (0 : Int64), rfl, N50, K0, Fwi, Fwo, Vw, (Or.inl ⟨rfl, own_eqT_2 hc92_52⟩)⟩
    · skip
      have go123 : Go p e below s₁ F0 T43 (mkF m 52 #[vr a1, vr a2, vi (0 : Int32), vi hs2, vi (31 : Int32), vi ((t + (1 : Int32)) &&& (31 : Int32)), vi (0 : Int32)] []) := by
        intro t_ k_
        refine go47 t_ ?_
        refine o_icmpYes X43 hx (hb hby d4_81) (pc' := 98) rfl (by decide) (feq hc81_48).2 ?_
        refine o_iload X43 hx (hb hby d4_98) rfl ?_
        refine o_iconst X43 hx (hb hby d4_100) (v := 1) rfl ?_
        refine o_iadd X43 hx (hb hby d4_101) ?_
        refine o_iload X43 hx (hb hby d4_102) rfl ?_
        refine o_iand X43 hx (hb hby d4_104) ?_
        refine o_istore X43 hx (hb hby d4_105) (L' := #[vr a1, vr a2, vi (0 : Int32), vi hs2, vi (31 : Int32), vi ((t + (1 : Int32)) &&& (31 : Int32)), vi (0 : Int32)]) rfl ?_
        refine o_goto X43 hx (hb hby d4_107) (pc' := 52) rfl (by decide) ?_
        exact k_
      obtain ⟨t122, h_t122⟩ : ∃ z : Int32, z = ((t + (1 : Int32)) &&& (31 : Int32)) := ⟨_, rfl⟩
      have go124 : Go p e below s₁ F0 T43 (mkF m 52 #[vr a1, vr a2, vi (0 : Int32), vi hs2, vi (31 : Int32), vi t122, vi (0 : Int32)] []) := by rw [h_t122]; exact go123
      have go125 : Go p e below s₁ F0 T43 (mkF m 53 #[vr a1, vr a2, vi (0 : Int32), vi hs2, vi (31 : Int32), vi t122, vi (0 : Int32)] [(.ref a1)]) := by
        intro t_ k_
        refine go124 t_ ?_
        refine o_aloadN X43 hx (hb hby d4_52) rfl rfl ?_
        exact k_
      obtain ⟨T126, X126, e126, st126⟩ := getF X43 hx hZ hown (host := "") (Or.inl (own_w hw 18 rfl)) Via.refl e43 Fsl (g := (mkF m 53 #[vr a1, vr a2, vi (0 : Int32), vi hs2, vi (31 : Int32), vi t122, vi (0 : Int32)] [(.ref a1)])) rfl rfl (hb hby d4_53)
      have go127 : Go p e below s₁ F0 T126 (mkF m 56 #[vr a1, vr a2, vi (0 : Int32), vi hs2, vi (31 : Int32), vi t122, vi (0 : Int32)] [(.ref bs)]) := fun t_ k_ => go125 t_ (st126 t_ k_)
      have go128 : Go p e below s₁ F0 T126 (mkF m 58 #[vr a1, vr a2, vi (0 : Int32), vi hs2, vi (31 : Int32), vi t122, vi (0 : Int32)] [(.int t122), (.ref bs)]) := by
        intro t_ k_
        refine go127 t_ ?_
        refine o_iload X126 hx (hb hby d4_56) rfl ?_
        exact k_
      obtain ⟨cl129, Ar129, -, Sz129, Nn129, Hs129, -⟩ := id Vs
      have hin129 : ¬ (t122 < 0 ∨ cl129.slots.size ≤ (t122).toNatClampNeg) := inb_of Sz129 (own_in2 h_t122)
      have hat129 : cl129.slots[(t122).toNatClampNeg]? = some (.int (0 : Int32)) := Hs129.at hin129 (own_miss (own_in2 h_t122) (own_in hsl) (own_next (own_in hsl) hb52_31 h_t122))
      have go130 : Go p e below s₁ F0 T126 (mkF m 112 #[vr a1, vr a2, vi (0 : Int32), vi hs2, vi (31 : Int32), vi t122, vi (0 : Int32)] [(.ref a1), (.ref a1)]) := by
        intro t_ k_
        refine go128 t_ ?_
        refine o_iaload X126 hx hZ e126 Ar129 hin129 hat129 (hb hby d4_58) ?_
        refine o_ifYes X126 hx (hb hby d4_59) (pc' := 110) rfl (by decide) ((if0 _ _).trans (teq (by decide : (0 : Int32) = (0 : Int32))).1) ?_
        refine o_aloadN X126 hx (hb hby d4_110) rfl rfl ?_
        refine o_dup X126 hx (hb hby d4_111) rfl ?_
        exact k_
      obtain ⟨T131, X131, e131, st131⟩ := getF X126 hx hZ hown (host := "") (Or.inl (own_w hw 37 rfl)) Via.refl e126 Fco (g := (mkF m 112 #[vr a1, vr a2, vi (0 : Int32), vi hs2, vi (31 : Int32), vi t122, vi (0 : Int32)] [(.ref a1), (.ref a1)])) rfl rfl (hb hby d4_112)
      have go132 : Go p e below s₁ F0 T131 (mkF m 115 #[vr a1, vr a2, vi (0 : Int32), vi hs2, vi (31 : Int32), vi t122, vi (0 : Int32)] [(.int (1 : Int32)), (.ref a1)]) := fun t_ k_ => go130 t_ (st131 t_ k_)
      have go133 : Go p e below s₁ F0 T131 (mkF m 118 #[vr a1, vr a2, vi (0 : Int32), vi hs2, vi (31 : Int32), vi t122, vi (0 : Int32)] [(.int (2 : Int32)), (.ref a1), (.int (1 : Int32))]) := by
        intro t_ k_
        refine go132 t_ ?_
        refine o_dupX1 X131 hx (hb hby d4_115) rfl rfl ?_
        refine o_iconst X131 hx (hb hby d4_116) (v := 1) rfl ?_
        refine o_iaddE X131 hx (hb hby d4_117) (v := 2) rfl ?_
        exact k_
      obtain ⟨T134, h134, X134, e134, W134, st134⟩ := putF X131 hx hZ hown (host := "") (Or.inl (own_w hw 37 rfl)) Via.refl e131 Fco E0 (Or.inl (own_w hw 38 rfl)) (own_w hw 3 rfl) (ty := .int) (by decide) rfl rfl (g := (mkF m 118 #[vr a1, vr a2, vi (0 : Int32), vi hs2, vi (31 : Int32), vi t122, vi (0 : Int32)] [(.int (2 : Int32)), (.ref a1), (.int (1 : Int32))])) rfl rfl (hb hby d4_118)
      have Fw134 : Fld Z h134 a1 c_0 "count" "I" (.int (2 : Int32)) := Fld.same W134 Fco
      have K135 : Keep h0 h134 [a1, bw, bh, bs] := K0.wr W134 (Or.inl (List.mem_of_getElem? (i := 0) rfl))
      have Z135 : n0 ≤ h134.size := Nat.le_trans Z0 (Keep.of_wr W134).1
      have N134 := Fr.snoc X134 N27 g1
      have go136 : Go p e below s₁ F0 T134 (mkF m 121 #[vr a1, vr a2, vi (0 : Int32), vi hs2, vi (31 : Int32), vi t122, vi (0 : Int32)] [(.int (1 : Int32))]) := fun t_ k_ => go133 t_ (st134 t_ k_)
      have F137 : Fld Z h134 a1 c_0 "hashes" "[I" (.ref bh) := (Fha.other W134 (Or.inr (slot_ne (Or.inl (own_w hw 17 rfl)) (Or.inl (own_w hw 38 rfl)) (by decide) (t := (.array .int)) (t' := .int) (by decide) (by decide))))
      have go138 : Go p e below s₁ F0 T134 (mkF m 126 #[vr a1, vr a2, vi (0 : Int32), vi hs2, vi (31 : Int32), vi t122, vi (1 : Int32)] [(.ref a1), (.int (1 : Int32))]) := by
        intro t_ k_
        refine go136 t_ ?_
        refine o_istore X134 hx (hb hby d4_121) (L' := #[vr a1, vr a2, vi (0 : Int32), vi hs2, vi (31 : Int32), vi t122, vi (1 : Int32)]) rfl ?_
        refine o_iload X134 hx (hb hby d4_123) rfl ?_
        refine o_aloadN X134 hx (hb hby d4_125) rfl rfl ?_
        exact k_
      obtain ⟨T139, X139, e139, st139⟩ := getF X134 hx hZ hown (host := "") (Or.inl (own_w hw 16 rfl)) Via.refl e134 F137 (g := (mkF m 126 #[vr a1, vr a2, vi (0 : Int32), vi hs2, vi (31 : Int32), vi t122, vi (1 : Int32)] [(.ref a1), (.int (1 : Int32))])) rfl rfl (hb hby d4_126)
      have go140 : Go p e below s₁ F0 T139 (mkF m 129 #[vr a1, vr a2, vi (0 : Int32), vi hs2, vi (31 : Int32), vi t122, vi (1 : Int32)] [(.ref bh), (.int (1 : Int32))]) := fun t_ k_ => go138 t_ (st139 t_ k_)
      have F141 : Arv Z h134 bh kh .int (16 : Int32) ((.int hs) :: own_zi 15) (.int (0 : Int32)) := (Vh.other W134 (Ne.symm nah))
      obtain ⟨cl142, Ar142, -, Sz142, Nn142, -, -⟩ := id F141
      have F143 : Fld Z h134 a1 c_0 "words" "[J" (.ref bw) := (Fwo.other W134 (Or.inr (slot_ne (Or.inl (own_w hw 14 rfl)) (Or.inl (own_w hw 38 rfl)) (by decide) (t := (.array .long)) (t' := .int) (by decide) (by decide))))
      have go144 : Go p e below s₁ F0 T139 (mkF m 171 #[vr a1, vr a2, vi (0 : Int32), vi hs2, vi (31 : Int32), vi t122, vi (1 : Int32)] [(.ref a1), (.int (0 : Int32)), (.ref a2)]) := by
        intro t_ k_
        refine go140 t_ ?_
        refine o_len X139 hx hZ e139 Ar142 Sz142 Nn142 (hb hby d4_129) ?_
        refine o_icmpYes X139 hx (hb hby d4_130) (pc' := 168) rfl (by decide) (feq (by decide : ¬ ((1 : Int32) = (16 : Int32)))).2 ?_
        refine o_aloadN X139 hx (hb hby d4_168) rfl rfl ?_
        refine o_iloadN X139 hx (hb hby d4_169) rfl ?_
        refine o_aloadN X139 hx (hb hby d4_170) rfl rfl ?_
        exact k_
      obtain ⟨T145, X145, e145, st145⟩ := getF X139 hx hZ hown (host := "") (Or.inl (own_w hw 13 rfl)) Via.refl e139 F143 (g := (mkF m 171 #[vr a1, vr a2, vi (0 : Int32), vi hs2, vi (31 : Int32), vi t122, vi (1 : Int32)] [(.ref a1), (.int (0 : Int32)), (.ref a2)])) rfl rfl (hb hby d4_171)
      have go146 : Go p e below s₁ F0 T145 (mkF m 174 #[vr a1, vr a2, vi (0 : Int32), vi hs2, vi (31 : Int32), vi t122, vi (1 : Int32)] [(.ref bw), (.int (0 : Int32)), (.ref a2)]) := fun t_ k_ => go144 t_ (st145 t_ k_)
      have F147 : Fld Z h134 a1 c_0 "width" "I" (.int (2 : Int32)) := (Fwi.other W134 (Or.inr (slot_ne (Or.inr (own_w hw 12 rfl)) (Or.inl (own_w hw 38 rfl)) (by decide) (t := .int) (t' := .int) (by decide) (by decide))))
      have go148 : Go p e below s₁ F0 T145 (mkF m 177 #[vr a1, vr a2, vi (0 : Int32), vi hs2, vi (31 : Int32), vi t122, vi (1 : Int32)] [(.ref a1), (.int (1 : Int32)), (.ref bw), (.int (0 : Int32)), (.ref a2)]) := by
        intro t_ k_
        refine go146 t_ ?_
        refine o_iload X145 hx (hb hby d4_174) rfl ?_
        refine o_aloadN X145 hx (hb hby d4_176) rfl rfl ?_
        exact k_
      obtain ⟨T149, X149, e149, st149⟩ := getF X145 hx hZ hown (host := "") (Or.inl (own_w hw 11 rfl)) Via.refl e145 F147 (g := (mkF m 177 #[vr a1, vr a2, vi (0 : Int32), vi hs2, vi (31 : Int32), vi t122, vi (1 : Int32)] [(.ref a1), (.int (1 : Int32)), (.ref bw), (.int (0 : Int32)), (.ref a2)])) rfl rfl (hb hby d4_177)
      have go150 : Go p e below s₁ F0 T149 (mkF m 180 #[vr a1, vr a2, vi (0 : Int32), vi hs2, vi (31 : Int32), vi t122, vi (1 : Int32)] [(.int (2 : Int32)), (.int (1 : Int32)), (.ref bw), (.int (0 : Int32)), (.ref a2)]) := fun t_ k_ => go148 t_ (st149 t_ k_)
      have go151 : Go p e below s₁ F0 T149 (mkF m 182 #[vr a1, vr a2, vi (0 : Int32), vi hs2, vi (31 : Int32), vi t122, vi (1 : Int32)] [(.ref a1), (.int (2 : Int32)), (.ref bw), (.int (0 : Int32)), (.ref a2)]) := by
        intro t_ k_
        refine go150 t_ ?_
        refine o_imulE X149 hx (hb hby d4_180) (v := 2) rfl ?_
        refine o_aloadN X149 hx (hb hby d4_181) rfl rfl ?_
        exact k_
      obtain ⟨T152, X152, e152, st152⟩ := getF X149 hx hZ hown (host := "") (Or.inl (own_w hw 11 rfl)) Via.refl e149 F147 (g := (mkF m 182 #[vr a1, vr a2, vi (0 : Int32), vi hs2, vi (31 : Int32), vi t122, vi (1 : Int32)] [(.ref a1), (.int (2 : Int32)), (.ref bw), (.int (0 : Int32)), (.ref a2)])) rfl rfl (hb hby d4_182)
      have go153 : Go p e below s₁ F0 T152 (mkF m 185 #[vr a1, vr a2, vi (0 : Int32), vi hs2, vi (31 : Int32), vi t122, vi (1 : Int32)] [(.int (2 : Int32)), (.int (2 : Int32)), (.ref bw), (.int (0 : Int32)), (.ref a2)]) := fun t_ k_ => go151 t_ (st152 t_ k_)
      have F154 : Arv Z h134 a2 k2 .long (2 : Int32) [(.long y0), (.long y1)] (.long (0 : Int64)) := (V2.other W134 (Ne.symm n12))
      have F155 : Arv Z h134 bw kw .long (32 : Int32) ((.long x0) :: (.long x1) :: own_zl 30) (.long (0 : Int64)) := (Vw.other W134 (Ne.symm naw))
      obtain ⟨T156, h156, L156, X156, e156, N156, Kc156, Vc156, st156⟩ := cpA X152 hx hZ hown (own_w hw 39 rfl) (own_w hw 42 rfl) (own_w hw 40 rfl) (own_w hw 41 rfl) e152 F154 F155 (Or.inl ⟨rfl, rfl⟩) (by decide) (by decide) (by decide) (by decide) (by decide) (us := [(.long y0), (.long y1)]) rfl (Nat.le_of_ble_eq_true rfl) N134 gw (g := (mkF m 185 #[vr a1, vr a2, vi (0 : Int32), vi hs2, vi (31 : Int32), vi t122, vi (1 : Int32)] [(.int (2 : Int32)), (.int (2 : Int32)), (.ref bw), (.int (0 : Int32)), (.ref a2)])) rfl (by rw [hml]; rfl) rfl (hb hby d4_185) (by decide) (W := 0) (by show 2 * 0 + _ ≤ _; exact Nat.le_of_eq rfl) (by decide)
      have V156 : Arv Z h156 bw kw .long (32 : Int32) ((.long x0) :: (.long x1) :: (.long y0) :: (.long y1) :: own_zl 28) (.long (0 : Int64)) := Vc156
      have K157 : Keep h0 h156 [a1, bw, bh, bs] := K135.trans Kc156 (allS (Or.inl (List.mem_of_getElem? (i := 1) rfl)) all0)
      have Z157 : n0 ≤ h156.size := Nat.le_trans Z135 Kc156.1
      have go158 : Go p e below s₁ F0 T156 (mkF m 188 #[vr a1, vr a2, vi (0 : Int32), vi hs2, vi (31 : Int32), vi t122, vi (1 : Int32)] []) := fun t_ k_ => go153 t_ (st156 t_ k_)
      have F159 : Fld Z h156 a1 c_0 "hashes" "[I" (.ref bh) := (F137.keep Kc156 (ninS naw nin0))
      have go160 : Go p e below s₁ F0 T156 (mkF m 189 #[vr a1, vr a2, vi (0 : Int32), vi hs2, vi (31 : Int32), vi t122, vi (1 : Int32)] [(.ref a1)]) := by
        intro t_ k_
        refine go158 t_ ?_
        refine o_aloadN X156 hx (hb hby d4_188) rfl rfl ?_
        exact k_
      obtain ⟨T161, X161, e161, st161⟩ := getF X156 hx hZ hown (host := "") (Or.inl (own_w hw 16 rfl)) Via.refl e156 F159 (g := (mkF m 189 #[vr a1, vr a2, vi (0 : Int32), vi hs2, vi (31 : Int32), vi t122, vi (1 : Int32)] [(.ref a1)])) rfl rfl (hb hby d4_189)
      have go162 : Go p e below s₁ F0 T161 (mkF m 192 #[vr a1, vr a2, vi (0 : Int32), vi hs2, vi (31 : Int32), vi t122, vi (1 : Int32)] [(.ref bh)]) := fun t_ k_ => go160 t_ (st161 t_ k_)
      have F163 : Arv Z h156 bh kh .int (16 : Int32) ((.int hs) :: own_zi 15) (.int (0 : Int32)) := (F141.keep Kc156 (ninS (Ne.symm nwh) nin0))
      have go164 : Go p e below s₁ F0 T161 (mkF m 195 #[vr a1, vr a2, vi (0 : Int32), vi hs2, vi (31 : Int32), vi t122, vi (1 : Int32)] [(.int hs2), (.int (1 : Int32)), (.ref bh)]) := by
        intro t_ k_
        refine go162 t_ ?_
        refine o_iload X161 hx (hb hby d4_192) rfl ?_
        refine o_iloadN X161 hx (hb hby d4_194) rfl ?_
        exact k_
      obtain ⟨cl165, Ar165, q165, Sz165, Nn165, Hs165, G165⟩ := id F163
      have hin165 : ¬ ((1 : Int32) < 0 ∨ cl165.slots.size ≤ ((1 : Int32)).toNatClampNeg) := inb_of Sz165 ⟨by decide, by decide⟩
      obtain ⟨T165, h165, X165, e165, W165, st165⟩ := stI X161 hx hZ e161 Ar165 (j := (1 : Int32)) hin165 (g := (mkF m 195 #[vr a1, vr a2, vi (0 : Int32), vi hs2, vi (31 : Int32), vi t122, vi (1 : Int32)] [(.int hs2), (.int (1 : Int32)), (.ref bh)])) rfl rfl (hb hby d4_195)
      have V165 : Arv Z h165 bh kh .int (16 : Int32) ((.int hs) :: (.int hs2) :: own_zi 14) (.int (0 : Int32)) := Arv.set Ar165 q165 Sz165 Nn165 Hs165 G165 rfl W165 1 rfl (Nat.le_of_ble_eq_true rfl)
      have K166 : Keep h0 h165 [a1, bw, bh, bs] := K157.wr W165 (Or.inl (List.mem_of_getElem? (i := 2) rfl))
      have Z166 : n0 ≤ h165.size := Nat.le_trans Z157 (Keep.of_wr W165).1
      have N165 := Fr.snoc X165 N156 gh
      have go167 : Go p e below s₁ F0 T165 (mkF m 196 #[vr a1, vr a2, vi (0 : Int32), vi hs2, vi (31 : Int32), vi t122, vi (1 : Int32)] []) := fun t_ k_ => go164 t_ (st165 t_ k_)
      have F168 : Fld Z h165 a1 c_0 "slots" "[I" (.ref bs) := (((Fsl.other W134 (Or.inr (slot_ne (Or.inl (own_w hw 19 rfl)) (Or.inl (own_w hw 38 rfl)) (by decide) (t := (.array .int)) (t' := .int) (by decide) (by decide)))).keep Kc156 (ninS naw nin0)).other W165 (Or.inl nah))
      have go169 : Go p e below s₁ F0 T165 (mkF m 197 #[vr a1, vr a2, vi (0 : Int32), vi hs2, vi (31 : Int32), vi t122, vi (1 : Int32)] [(.ref a1)]) := by
        intro t_ k_
        refine go167 t_ ?_
        refine o_aloadN X165 hx (hb hby d4_196) rfl rfl ?_
        exact k_
      obtain ⟨T170, X170, e170, st170⟩ := getF X165 hx hZ hown (host := "") (Or.inl (own_w hw 18 rfl)) Via.refl e165 F168 (g := (mkF m 197 #[vr a1, vr a2, vi (0 : Int32), vi hs2, vi (31 : Int32), vi t122, vi (1 : Int32)] [(.ref a1)])) rfl rfl (hb hby d4_197)
      have go171 : Go p e below s₁ F0 T170 (mkF m 200 #[vr a1, vr a2, vi (0 : Int32), vi hs2, vi (31 : Int32), vi t122, vi (1 : Int32)] [(.ref bs)]) := fun t_ k_ => go169 t_ (st170 t_ k_)
      have F172 : Arv Z h165 bs ks .int (32 : Int32) (own_sl sl) (.int (0 : Int32)) := (((Vs.other W134 (Ne.symm nas)).keep Kc156 (ninS (Ne.symm nws) nin0)).other W165 (Ne.symm nhs))
      have go173 : Go p e below s₁ F0 T170 (mkF m 206 #[vr a1, vr a2, vi (0 : Int32), vi hs2, vi (31 : Int32), vi t122, vi (1 : Int32)] [(.int (2 : Int32)), (.int t122), (.ref bs)]) := by
        intro t_ k_
        refine go171 t_ ?_
        refine o_iload X170 hx (hb hby d4_200) rfl ?_
        refine o_iload X170 hx (hb hby d4_202) rfl ?_
        refine o_iconst X170 hx (hb hby d4_204) (v := 1) rfl ?_
        refine o_iaddE X170 hx (hb hby d4_205) (v := 2) rfl ?_
        exact k_
      obtain ⟨cl174, Ar174, q174, Sz174, Nn174, Hs174, G174⟩ := id F172
      have hin174 : ¬ (t122 < 0 ∨ cl174.slots.size ≤ (t122).toNatClampNeg) := inb_of Sz174 (own_in2 h_t122)
      obtain ⟨T174, h174, X174, e174, W174, st174⟩ := stI X170 hx hZ e170 Ar174 (j := t122) hin174 (g := (mkF m 206 #[vr a1, vr a2, vi (0 : Int32), vi hs2, vi (31 : Int32), vi t122, vi (1 : Int32)] [(.int (2 : Int32)), (.int t122), (.ref bs)])) rfl rfl (hb hby d4_206)
      have V174 : Arv Z h174 bs ks .int (32 : Int32) ((own_sl sl).set t122.toNatClampNeg (.int (2 : Int32))) (.int (0 : Int32)) := Arv.set Ar174 q174 Sz174 Nn174 Hs174 G174 rfl W174 t122.toNatClampNeg rfl (own_ls (own_in2 h_t122))
      have K175 : Keep h0 h174 [a1, bw, bh, bs] := K166.wr W174 (Or.inl (List.mem_of_getElem? (i := 3) rfl))
      have Z175 : n0 ≤ h174.size := Nat.le_trans Z166 (Keep.of_wr W174).1
      have N174 := Fr.snoc X174 N165 gs
      have go176 : Go p e below s₁ F0 T174 (mkF m 207 #[vr a1, vr a2, vi (0 : Int32), vi hs2, vi (31 : Int32), vi t122, vi (1 : Int32)] []) := fun t_ k_ => go173 t_ (st174 t_ k_)
      have F177 : Fld Z h174 a1 c_0 "count" "I" (.int (2 : Int32)) := (((Fw134.keep Kc156 (ninS naw nin0)).other W165 (Or.inl nah)).other W174 (Or.inl nas))
      have go178 : Go p e below s₁ F0 T174 (mkF m 209 #[vr a1, vr a2, vi (0 : Int32), vi hs2, vi (31 : Int32), vi t122, vi (1 : Int32)] [(.ref a1), (.int (2 : Int32))]) := by
        intro t_ k_
        refine go176 t_ ?_
        refine o_iconst X174 hx (hb hby d4_207) (v := 2) rfl ?_
        refine o_aloadN X174 hx (hb hby d4_208) rfl rfl ?_
        exact k_
      obtain ⟨T179, X179, e179, st179⟩ := getF X174 hx hZ hown (host := "") (Or.inl (own_w hw 37 rfl)) Via.refl e174 F177 (g := (mkF m 209 #[vr a1, vr a2, vi (0 : Int32), vi hs2, vi (31 : Int32), vi t122, vi (1 : Int32)] [(.ref a1), (.int (2 : Int32))])) rfl rfl (hb hby d4_209)
      have go180 : Go p e below s₁ F0 T179 (mkF m 212 #[vr a1, vr a2, vi (0 : Int32), vi hs2, vi (31 : Int32), vi t122, vi (1 : Int32)] [(.int (2 : Int32)), (.int (2 : Int32))]) := fun t_ k_ => go178 t_ (st179 t_ k_)
      have F181 : Fld Z h174 a1 c_0 "slots" "[I" (.ref bs) := (F168.other W174 (Or.inl nas))
      have go182 : Go p e below s₁ F0 T179 (mkF m 214 #[vr a1, vr a2, vi (0 : Int32), vi hs2, vi (31 : Int32), vi t122, vi (1 : Int32)] [(.ref a1), (.int (4 : Int32))]) := by
        intro t_ k_
        refine go180 t_ ?_
        refine o_imulE X179 hx (hb hby d4_212) (v := 4) rfl ?_
        refine o_aloadN X179 hx (hb hby d4_213) rfl rfl ?_
        exact k_
      obtain ⟨T183, X183, e183, st183⟩ := getF X179 hx hZ hown (host := "") (Or.inl (own_w hw 18 rfl)) Via.refl e179 F181 (g := (mkF m 214 #[vr a1, vr a2, vi (0 : Int32), vi hs2, vi (31 : Int32), vi t122, vi (1 : Int32)] [(.ref a1), (.int (4 : Int32))])) rfl rfl (hb hby d4_214)
      have go184 : Go p e below s₁ F0 T183 (mkF m 217 #[vr a1, vr a2, vi (0 : Int32), vi hs2, vi (31 : Int32), vi t122, vi (1 : Int32)] [(.ref bs), (.int (4 : Int32))]) := fun t_ k_ => go182 t_ (st183 t_ k_)
      obtain ⟨cl185, Ar185, -, Sz185, Nn185, -, -⟩ := id V174
      have go186 : Go p e below s₁ F0 T183 (mkF m 227 #[vr a1, vr a2, vi (0 : Int32), vi hs2, vi (31 : Int32), vi t122, vi (1 : Int32)] [(.int (1 : Int32))]) := by
        intro t_ k_
        refine go184 t_ ?_
        refine o_len X183 hx hZ e183 Ar185 Sz185 Nn185 (hb hby d4_217) ?_
        refine o_icmpYes X183 hx (hb hby d4_218) (pc' := 225) rfl (by decide) (flt (by decide : ¬ ((32 : Int32) < (4 : Int32)))).2.2.2 ?_
        refine o_iload X183 hx (hb hby d4_225) rfl ?_
        exact k_
      obtain ⟨fs, hr, hrun, hended, hW, hsame⟩ := X183.leave (v := some (.int (1 : Int32))) (fun h => by rw [Bd.returns] at h; cases h)
      refine ⟨_, _, pre0 _ (go186 _ ?_), hrun, hended, _, _, rfl, ?_, ⟨_, rfl⟩, hW, hsame.mono (by decide) (by decide)⟩
      · skip
        exact retI X183 hx Bd.returns (hb hby d4_227) hr
      · show Q4_b2 Z a1 a2 bw bh bs kw kh ks k2 hs sl x0 x1 y0 y1 h0 n0 _ T183.heap _
        rw [e183]
        have F187 : Fld Z h174 a1 c_0 "width" "I" (.int (2 : Int32)) := (((F147.keep Kc156 (ninS naw nin0)).other W165 (Or.inl nah)).other W174 (Or.inl nas))
        have F188 : Fld Z h174 a1 c_0 "words" "[J" (.ref bw) := (((F143.keep Kc156 (ninS naw nin0)).other W165 (Or.inl nah)).other W174 (Or.inl nas))
        have F189 : Arv Z h174 bw kw .long (32 : Int32) ((.long x0) :: (.long x1) :: (.long y0) :: (.long y1) :: own_zl 28) (.long (0 : Int64)) := ((V156.other W165 nwh).other W174 nws)
        exact ⟨(1 : Int32), y0, y1, rfl, N174, K175, F187, F188, F189, (Or.inr ⟨rfl, (own_neH_2 hhs h_hs2 hc81_48), rfl, rfl⟩)⟩
  · skip
    have go190 : Go p e below s₁ F0 T27 (mkF m 53 #[vr a1, vr a2, vi (0 : Int32), vi hs2, vi (31 : Int32), vi t, .unset] [(.ref a1)]) := by
      intro t_ k_
      refine go30 t_ ?_
      refine o_aloadN X27 hx (hb hby d4_52) rfl rfl ?_
      exact k_
    obtain ⟨T191, X191, e191, st191⟩ := getF X27 hx hZ hown (host := "") (Or.inl (own_w hw 18 rfl)) Via.refl eh27 Fsl (g := (mkF m 53 #[vr a1, vr a2, vi (0 : Int32), vi hs2, vi (31 : Int32), vi t, .unset] [(.ref a1)])) rfl rfl (hb hby d4_53)
    have go192 : Go p e below s₁ F0 T191 (mkF m 56 #[vr a1, vr a2, vi (0 : Int32), vi hs2, vi (31 : Int32), vi t, .unset] [(.ref bs)]) := fun t_ k_ => go190 t_ (st191 t_ k_)
    have go193 : Go p e below s₁ F0 T191 (mkF m 58 #[vr a1, vr a2, vi (0 : Int32), vi hs2, vi (31 : Int32), vi t, .unset] [(.int t), (.ref bs)]) := by
      intro t_ k_
      refine go192 t_ ?_
      refine o_iload X191 hx (hb hby d4_56) rfl ?_
      exact k_
    obtain ⟨cl194, Ar194, -, Sz194, Nn194, Hs194, -⟩ := id Vs
    have hin194 : ¬ (t < 0 ∨ cl194.slots.size ≤ (t).toNatClampNeg) := inb_of Sz194 (own_in h_t)
    have hat194 : cl194.slots[(t).toNatClampNeg]? = some (.int (0 : Int32)) := Hs194.at hin194 (own_miss (own_in h_t) (own_in hsl) hb52_31)
    have go195 : Go p e below s₁ F0 T191 (mkF m 112 #[vr a1, vr a2, vi (0 : Int32), vi hs2, vi (31 : Int32), vi t, .unset] [(.ref a1), (.ref a1)]) := by
      intro t_ k_
      refine go193 t_ ?_
      refine o_iaload X191 hx hZ e191 Ar194 hin194 hat194 (hb hby d4_58) ?_
      refine o_ifYes X191 hx (hb hby d4_59) (pc' := 110) rfl (by decide) ((if0 _ _).trans (teq (by decide : (0 : Int32) = (0 : Int32))).1) ?_
      refine o_aloadN X191 hx (hb hby d4_110) rfl rfl ?_
      refine o_dup X191 hx (hb hby d4_111) rfl ?_
      exact k_
    obtain ⟨T196, X196, e196, st196⟩ := getF X191 hx hZ hown (host := "") (Or.inl (own_w hw 37 rfl)) Via.refl e191 Fco (g := (mkF m 112 #[vr a1, vr a2, vi (0 : Int32), vi hs2, vi (31 : Int32), vi t, .unset] [(.ref a1), (.ref a1)])) rfl rfl (hb hby d4_112)
    have go197 : Go p e below s₁ F0 T196 (mkF m 115 #[vr a1, vr a2, vi (0 : Int32), vi hs2, vi (31 : Int32), vi t, .unset] [(.int (1 : Int32)), (.ref a1)]) := fun t_ k_ => go195 t_ (st196 t_ k_)
    have go198 : Go p e below s₁ F0 T196 (mkF m 118 #[vr a1, vr a2, vi (0 : Int32), vi hs2, vi (31 : Int32), vi t, .unset] [(.int (2 : Int32)), (.ref a1), (.int (1 : Int32))]) := by
      intro t_ k_
      refine go197 t_ ?_
      refine o_dupX1 X196 hx (hb hby d4_115) rfl rfl ?_
      refine o_iconst X196 hx (hb hby d4_116) (v := 1) rfl ?_
      refine o_iaddE X196 hx (hb hby d4_117) (v := 2) rfl ?_
      exact k_
    obtain ⟨T199, h199, X199, e199, W199, st199⟩ := putF X196 hx hZ hown (host := "") (Or.inl (own_w hw 37 rfl)) Via.refl e196 Fco E0 (Or.inl (own_w hw 38 rfl)) (own_w hw 3 rfl) (ty := .int) (by decide) rfl rfl (g := (mkF m 118 #[vr a1, vr a2, vi (0 : Int32), vi hs2, vi (31 : Int32), vi t, .unset] [(.int (2 : Int32)), (.ref a1), (.int (1 : Int32))])) rfl rfl (hb hby d4_118)
    have Fw199 : Fld Z h199 a1 c_0 "count" "I" (.int (2 : Int32)) := Fld.same W199 Fco
    have K200 : Keep h0 h199 [a1, bw, bh, bs] := K0.wr W199 (Or.inl (List.mem_of_getElem? (i := 0) rfl))
    have Z200 : n0 ≤ h199.size := Nat.le_trans Z0 (Keep.of_wr W199).1
    have N199 := Fr.snoc X199 N27 g1
    have go201 : Go p e below s₁ F0 T199 (mkF m 121 #[vr a1, vr a2, vi (0 : Int32), vi hs2, vi (31 : Int32), vi t, .unset] [(.int (1 : Int32))]) := fun t_ k_ => go198 t_ (st199 t_ k_)
    have F202 : Fld Z h199 a1 c_0 "hashes" "[I" (.ref bh) := (Fha.other W199 (Or.inr (slot_ne (Or.inl (own_w hw 17 rfl)) (Or.inl (own_w hw 38 rfl)) (by decide) (t := (.array .int)) (t' := .int) (by decide) (by decide))))
    have go203 : Go p e below s₁ F0 T199 (mkF m 126 #[vr a1, vr a2, vi (0 : Int32), vi hs2, vi (31 : Int32), vi t, vi (1 : Int32)] [(.ref a1), (.int (1 : Int32))]) := by
      intro t_ k_
      refine go201 t_ ?_
      refine o_istore X199 hx (hb hby d4_121) (L' := #[vr a1, vr a2, vi (0 : Int32), vi hs2, vi (31 : Int32), vi t, vi (1 : Int32)]) rfl ?_
      refine o_iload X199 hx (hb hby d4_123) rfl ?_
      refine o_aloadN X199 hx (hb hby d4_125) rfl rfl ?_
      exact k_
    obtain ⟨T204, X204, e204, st204⟩ := getF X199 hx hZ hown (host := "") (Or.inl (own_w hw 16 rfl)) Via.refl e199 F202 (g := (mkF m 126 #[vr a1, vr a2, vi (0 : Int32), vi hs2, vi (31 : Int32), vi t, vi (1 : Int32)] [(.ref a1), (.int (1 : Int32))])) rfl rfl (hb hby d4_126)
    have go205 : Go p e below s₁ F0 T204 (mkF m 129 #[vr a1, vr a2, vi (0 : Int32), vi hs2, vi (31 : Int32), vi t, vi (1 : Int32)] [(.ref bh), (.int (1 : Int32))]) := fun t_ k_ => go203 t_ (st204 t_ k_)
    have F206 : Arv Z h199 bh kh .int (16 : Int32) ((.int hs) :: own_zi 15) (.int (0 : Int32)) := (Vh.other W199 (Ne.symm nah))
    obtain ⟨cl207, Ar207, -, Sz207, Nn207, -, -⟩ := id F206
    have F208 : Fld Z h199 a1 c_0 "words" "[J" (.ref bw) := (Fwo.other W199 (Or.inr (slot_ne (Or.inl (own_w hw 14 rfl)) (Or.inl (own_w hw 38 rfl)) (by decide) (t := (.array .long)) (t' := .int) (by decide) (by decide))))
    have go209 : Go p e below s₁ F0 T204 (mkF m 171 #[vr a1, vr a2, vi (0 : Int32), vi hs2, vi (31 : Int32), vi t, vi (1 : Int32)] [(.ref a1), (.int (0 : Int32)), (.ref a2)]) := by
      intro t_ k_
      refine go205 t_ ?_
      refine o_len X204 hx hZ e204 Ar207 Sz207 Nn207 (hb hby d4_129) ?_
      refine o_icmpYes X204 hx (hb hby d4_130) (pc' := 168) rfl (by decide) (feq (by decide : ¬ ((1 : Int32) = (16 : Int32)))).2 ?_
      refine o_aloadN X204 hx (hb hby d4_168) rfl rfl ?_
      refine o_iloadN X204 hx (hb hby d4_169) rfl ?_
      refine o_aloadN X204 hx (hb hby d4_170) rfl rfl ?_
      exact k_
    obtain ⟨T210, X210, e210, st210⟩ := getF X204 hx hZ hown (host := "") (Or.inl (own_w hw 13 rfl)) Via.refl e204 F208 (g := (mkF m 171 #[vr a1, vr a2, vi (0 : Int32), vi hs2, vi (31 : Int32), vi t, vi (1 : Int32)] [(.ref a1), (.int (0 : Int32)), (.ref a2)])) rfl rfl (hb hby d4_171)
    have go211 : Go p e below s₁ F0 T210 (mkF m 174 #[vr a1, vr a2, vi (0 : Int32), vi hs2, vi (31 : Int32), vi t, vi (1 : Int32)] [(.ref bw), (.int (0 : Int32)), (.ref a2)]) := fun t_ k_ => go209 t_ (st210 t_ k_)
    have F212 : Fld Z h199 a1 c_0 "width" "I" (.int (2 : Int32)) := (Fwi.other W199 (Or.inr (slot_ne (Or.inr (own_w hw 12 rfl)) (Or.inl (own_w hw 38 rfl)) (by decide) (t := .int) (t' := .int) (by decide) (by decide))))
    have go213 : Go p e below s₁ F0 T210 (mkF m 177 #[vr a1, vr a2, vi (0 : Int32), vi hs2, vi (31 : Int32), vi t, vi (1 : Int32)] [(.ref a1), (.int (1 : Int32)), (.ref bw), (.int (0 : Int32)), (.ref a2)]) := by
      intro t_ k_
      refine go211 t_ ?_
      refine o_iload X210 hx (hb hby d4_174) rfl ?_
      refine o_aloadN X210 hx (hb hby d4_176) rfl rfl ?_
      exact k_
    obtain ⟨T214, X214, e214, st214⟩ := getF X210 hx hZ hown (host := "") (Or.inl (own_w hw 11 rfl)) Via.refl e210 F212 (g := (mkF m 177 #[vr a1, vr a2, vi (0 : Int32), vi hs2, vi (31 : Int32), vi t, vi (1 : Int32)] [(.ref a1), (.int (1 : Int32)), (.ref bw), (.int (0 : Int32)), (.ref a2)])) rfl rfl (hb hby d4_177)
    have go215 : Go p e below s₁ F0 T214 (mkF m 180 #[vr a1, vr a2, vi (0 : Int32), vi hs2, vi (31 : Int32), vi t, vi (1 : Int32)] [(.int (2 : Int32)), (.int (1 : Int32)), (.ref bw), (.int (0 : Int32)), (.ref a2)]) := fun t_ k_ => go213 t_ (st214 t_ k_)
    have go216 : Go p e below s₁ F0 T214 (mkF m 182 #[vr a1, vr a2, vi (0 : Int32), vi hs2, vi (31 : Int32), vi t, vi (1 : Int32)] [(.ref a1), (.int (2 : Int32)), (.ref bw), (.int (0 : Int32)), (.ref a2)]) := by
      intro t_ k_
      refine go215 t_ ?_
      refine o_imulE X214 hx (hb hby d4_180) (v := 2) rfl ?_
      refine o_aloadN X214 hx (hb hby d4_181) rfl rfl ?_
      exact k_
    obtain ⟨T217, X217, e217, st217⟩ := getF X214 hx hZ hown (host := "") (Or.inl (own_w hw 11 rfl)) Via.refl e214 F212 (g := (mkF m 182 #[vr a1, vr a2, vi (0 : Int32), vi hs2, vi (31 : Int32), vi t, vi (1 : Int32)] [(.ref a1), (.int (2 : Int32)), (.ref bw), (.int (0 : Int32)), (.ref a2)])) rfl rfl (hb hby d4_182)
    have go218 : Go p e below s₁ F0 T217 (mkF m 185 #[vr a1, vr a2, vi (0 : Int32), vi hs2, vi (31 : Int32), vi t, vi (1 : Int32)] [(.int (2 : Int32)), (.int (2 : Int32)), (.ref bw), (.int (0 : Int32)), (.ref a2)]) := fun t_ k_ => go216 t_ (st217 t_ k_)
    have F219 : Arv Z h199 a2 k2 .long (2 : Int32) [(.long y0), (.long y1)] (.long (0 : Int64)) := (V2.other W199 (Ne.symm n12))
    have F220 : Arv Z h199 bw kw .long (32 : Int32) ((.long x0) :: (.long x1) :: own_zl 30) (.long (0 : Int64)) := (Vw.other W199 (Ne.symm naw))
    obtain ⟨T221, h221, L221, X221, e221, N221, Kc221, Vc221, st221⟩ := cpA X217 hx hZ hown (own_w hw 39 rfl) (own_w hw 42 rfl) (own_w hw 40 rfl) (own_w hw 41 rfl) e217 F219 F220 (Or.inl ⟨rfl, rfl⟩) (by decide) (by decide) (by decide) (by decide) (by decide) (us := [(.long y0), (.long y1)]) rfl (Nat.le_of_ble_eq_true rfl) N199 gw (g := (mkF m 185 #[vr a1, vr a2, vi (0 : Int32), vi hs2, vi (31 : Int32), vi t, vi (1 : Int32)] [(.int (2 : Int32)), (.int (2 : Int32)), (.ref bw), (.int (0 : Int32)), (.ref a2)])) rfl (by rw [hml]; rfl) rfl (hb hby d4_185) (by decide) (W := 0) (by show 2 * 0 + _ ≤ _; exact Nat.le_of_eq rfl) (by decide)
    have V221 : Arv Z h221 bw kw .long (32 : Int32) ((.long x0) :: (.long x1) :: (.long y0) :: (.long y1) :: own_zl 28) (.long (0 : Int64)) := Vc221
    have K222 : Keep h0 h221 [a1, bw, bh, bs] := K200.trans Kc221 (allS (Or.inl (List.mem_of_getElem? (i := 1) rfl)) all0)
    have Z222 : n0 ≤ h221.size := Nat.le_trans Z200 Kc221.1
    have go223 : Go p e below s₁ F0 T221 (mkF m 188 #[vr a1, vr a2, vi (0 : Int32), vi hs2, vi (31 : Int32), vi t, vi (1 : Int32)] []) := fun t_ k_ => go218 t_ (st221 t_ k_)
    have F224 : Fld Z h221 a1 c_0 "hashes" "[I" (.ref bh) := (F202.keep Kc221 (ninS naw nin0))
    have go225 : Go p e below s₁ F0 T221 (mkF m 189 #[vr a1, vr a2, vi (0 : Int32), vi hs2, vi (31 : Int32), vi t, vi (1 : Int32)] [(.ref a1)]) := by
      intro t_ k_
      refine go223 t_ ?_
      refine o_aloadN X221 hx (hb hby d4_188) rfl rfl ?_
      exact k_
    obtain ⟨T226, X226, e226, st226⟩ := getF X221 hx hZ hown (host := "") (Or.inl (own_w hw 16 rfl)) Via.refl e221 F224 (g := (mkF m 189 #[vr a1, vr a2, vi (0 : Int32), vi hs2, vi (31 : Int32), vi t, vi (1 : Int32)] [(.ref a1)])) rfl rfl (hb hby d4_189)
    have go227 : Go p e below s₁ F0 T226 (mkF m 192 #[vr a1, vr a2, vi (0 : Int32), vi hs2, vi (31 : Int32), vi t, vi (1 : Int32)] [(.ref bh)]) := fun t_ k_ => go225 t_ (st226 t_ k_)
    have F228 : Arv Z h221 bh kh .int (16 : Int32) ((.int hs) :: own_zi 15) (.int (0 : Int32)) := (F206.keep Kc221 (ninS (Ne.symm nwh) nin0))
    have go229 : Go p e below s₁ F0 T226 (mkF m 195 #[vr a1, vr a2, vi (0 : Int32), vi hs2, vi (31 : Int32), vi t, vi (1 : Int32)] [(.int hs2), (.int (1 : Int32)), (.ref bh)]) := by
      intro t_ k_
      refine go227 t_ ?_
      refine o_iload X226 hx (hb hby d4_192) rfl ?_
      refine o_iloadN X226 hx (hb hby d4_194) rfl ?_
      exact k_
    obtain ⟨cl230, Ar230, q230, Sz230, Nn230, Hs230, G230⟩ := id F228
    have hin230 : ¬ ((1 : Int32) < 0 ∨ cl230.slots.size ≤ ((1 : Int32)).toNatClampNeg) := inb_of Sz230 ⟨by decide, by decide⟩
    obtain ⟨T230, h230, X230, e230, W230, st230⟩ := stI X226 hx hZ e226 Ar230 (j := (1 : Int32)) hin230 (g := (mkF m 195 #[vr a1, vr a2, vi (0 : Int32), vi hs2, vi (31 : Int32), vi t, vi (1 : Int32)] [(.int hs2), (.int (1 : Int32)), (.ref bh)])) rfl rfl (hb hby d4_195)
    have V230 : Arv Z h230 bh kh .int (16 : Int32) ((.int hs) :: (.int hs2) :: own_zi 14) (.int (0 : Int32)) := Arv.set Ar230 q230 Sz230 Nn230 Hs230 G230 rfl W230 1 rfl (Nat.le_of_ble_eq_true rfl)
    have K231 : Keep h0 h230 [a1, bw, bh, bs] := K222.wr W230 (Or.inl (List.mem_of_getElem? (i := 2) rfl))
    have Z231 : n0 ≤ h230.size := Nat.le_trans Z222 (Keep.of_wr W230).1
    have N230 := Fr.snoc X230 N221 gh
    have go232 : Go p e below s₁ F0 T230 (mkF m 196 #[vr a1, vr a2, vi (0 : Int32), vi hs2, vi (31 : Int32), vi t, vi (1 : Int32)] []) := fun t_ k_ => go229 t_ (st230 t_ k_)
    have F233 : Fld Z h230 a1 c_0 "slots" "[I" (.ref bs) := (((Fsl.other W199 (Or.inr (slot_ne (Or.inl (own_w hw 19 rfl)) (Or.inl (own_w hw 38 rfl)) (by decide) (t := (.array .int)) (t' := .int) (by decide) (by decide)))).keep Kc221 (ninS naw nin0)).other W230 (Or.inl nah))
    have go234 : Go p e below s₁ F0 T230 (mkF m 197 #[vr a1, vr a2, vi (0 : Int32), vi hs2, vi (31 : Int32), vi t, vi (1 : Int32)] [(.ref a1)]) := by
      intro t_ k_
      refine go232 t_ ?_
      refine o_aloadN X230 hx (hb hby d4_196) rfl rfl ?_
      exact k_
    obtain ⟨T235, X235, e235, st235⟩ := getF X230 hx hZ hown (host := "") (Or.inl (own_w hw 18 rfl)) Via.refl e230 F233 (g := (mkF m 197 #[vr a1, vr a2, vi (0 : Int32), vi hs2, vi (31 : Int32), vi t, vi (1 : Int32)] [(.ref a1)])) rfl rfl (hb hby d4_197)
    have go236 : Go p e below s₁ F0 T235 (mkF m 200 #[vr a1, vr a2, vi (0 : Int32), vi hs2, vi (31 : Int32), vi t, vi (1 : Int32)] [(.ref bs)]) := fun t_ k_ => go234 t_ (st235 t_ k_)
    have F237 : Arv Z h230 bs ks .int (32 : Int32) (own_sl sl) (.int (0 : Int32)) := (((Vs.other W199 (Ne.symm nas)).keep Kc221 (ninS (Ne.symm nws) nin0)).other W230 (Ne.symm nhs))
    have go238 : Go p e below s₁ F0 T235 (mkF m 206 #[vr a1, vr a2, vi (0 : Int32), vi hs2, vi (31 : Int32), vi t, vi (1 : Int32)] [(.int (2 : Int32)), (.int t), (.ref bs)]) := by
      intro t_ k_
      refine go236 t_ ?_
      refine o_iload X235 hx (hb hby d4_200) rfl ?_
      refine o_iload X235 hx (hb hby d4_202) rfl ?_
      refine o_iconst X235 hx (hb hby d4_204) (v := 1) rfl ?_
      refine o_iaddE X235 hx (hb hby d4_205) (v := 2) rfl ?_
      exact k_
    obtain ⟨cl239, Ar239, q239, Sz239, Nn239, Hs239, G239⟩ := id F237
    have hin239 : ¬ (t < 0 ∨ cl239.slots.size ≤ (t).toNatClampNeg) := inb_of Sz239 (own_in h_t)
    obtain ⟨T239, h239, X239, e239, W239, st239⟩ := stI X235 hx hZ e235 Ar239 (j := t) hin239 (g := (mkF m 206 #[vr a1, vr a2, vi (0 : Int32), vi hs2, vi (31 : Int32), vi t, vi (1 : Int32)] [(.int (2 : Int32)), (.int t), (.ref bs)])) rfl rfl (hb hby d4_206)
    have V239 : Arv Z h239 bs ks .int (32 : Int32) ((own_sl sl).set t.toNatClampNeg (.int (2 : Int32))) (.int (0 : Int32)) := Arv.set Ar239 q239 Sz239 Nn239 Hs239 G239 rfl W239 t.toNatClampNeg rfl (own_ls (own_in h_t))
    have K240 : Keep h0 h239 [a1, bw, bh, bs] := K231.wr W239 (Or.inl (List.mem_of_getElem? (i := 3) rfl))
    have Z240 : n0 ≤ h239.size := Nat.le_trans Z231 (Keep.of_wr W239).1
    have N239 := Fr.snoc X239 N230 gs
    have go241 : Go p e below s₁ F0 T239 (mkF m 207 #[vr a1, vr a2, vi (0 : Int32), vi hs2, vi (31 : Int32), vi t, vi (1 : Int32)] []) := fun t_ k_ => go238 t_ (st239 t_ k_)
    have F242 : Fld Z h239 a1 c_0 "count" "I" (.int (2 : Int32)) := (((Fw199.keep Kc221 (ninS naw nin0)).other W230 (Or.inl nah)).other W239 (Or.inl nas))
    have go243 : Go p e below s₁ F0 T239 (mkF m 209 #[vr a1, vr a2, vi (0 : Int32), vi hs2, vi (31 : Int32), vi t, vi (1 : Int32)] [(.ref a1), (.int (2 : Int32))]) := by
      intro t_ k_
      refine go241 t_ ?_
      refine o_iconst X239 hx (hb hby d4_207) (v := 2) rfl ?_
      refine o_aloadN X239 hx (hb hby d4_208) rfl rfl ?_
      exact k_
    obtain ⟨T244, X244, e244, st244⟩ := getF X239 hx hZ hown (host := "") (Or.inl (own_w hw 37 rfl)) Via.refl e239 F242 (g := (mkF m 209 #[vr a1, vr a2, vi (0 : Int32), vi hs2, vi (31 : Int32), vi t, vi (1 : Int32)] [(.ref a1), (.int (2 : Int32))])) rfl rfl (hb hby d4_209)
    have go245 : Go p e below s₁ F0 T244 (mkF m 212 #[vr a1, vr a2, vi (0 : Int32), vi hs2, vi (31 : Int32), vi t, vi (1 : Int32)] [(.int (2 : Int32)), (.int (2 : Int32))]) := fun t_ k_ => go243 t_ (st244 t_ k_)
    have F246 : Fld Z h239 a1 c_0 "slots" "[I" (.ref bs) := (F233.other W239 (Or.inl nas))
    have go247 : Go p e below s₁ F0 T244 (mkF m 214 #[vr a1, vr a2, vi (0 : Int32), vi hs2, vi (31 : Int32), vi t, vi (1 : Int32)] [(.ref a1), (.int (4 : Int32))]) := by
      intro t_ k_
      refine go245 t_ ?_
      refine o_imulE X244 hx (hb hby d4_212) (v := 4) rfl ?_
      refine o_aloadN X244 hx (hb hby d4_213) rfl rfl ?_
      exact k_
    obtain ⟨T248, X248, e248, st248⟩ := getF X244 hx hZ hown (host := "") (Or.inl (own_w hw 18 rfl)) Via.refl e244 F246 (g := (mkF m 214 #[vr a1, vr a2, vi (0 : Int32), vi hs2, vi (31 : Int32), vi t, vi (1 : Int32)] [(.ref a1), (.int (4 : Int32))])) rfl rfl (hb hby d4_214)
    have go249 : Go p e below s₁ F0 T248 (mkF m 217 #[vr a1, vr a2, vi (0 : Int32), vi hs2, vi (31 : Int32), vi t, vi (1 : Int32)] [(.ref bs), (.int (4 : Int32))]) := fun t_ k_ => go247 t_ (st248 t_ k_)
    obtain ⟨cl250, Ar250, -, Sz250, Nn250, -, -⟩ := id V239
    have go251 : Go p e below s₁ F0 T248 (mkF m 227 #[vr a1, vr a2, vi (0 : Int32), vi hs2, vi (31 : Int32), vi t, vi (1 : Int32)] [(.int (1 : Int32))]) := by
      intro t_ k_
      refine go249 t_ ?_
      refine o_len X248 hx hZ e248 Ar250 Sz250 Nn250 (hb hby d4_217) ?_
      refine o_icmpYes X248 hx (hb hby d4_218) (pc' := 225) rfl (by decide) (flt (by decide : ¬ ((32 : Int32) < (4 : Int32)))).2.2.2 ?_
      refine o_iload X248 hx (hb hby d4_225) rfl ?_
      exact k_
    obtain ⟨fs, hr, hrun, hended, hW, hsame⟩ := X248.leave (v := some (.int (1 : Int32))) (fun h => by rw [Bd.returns] at h; cases h)
    refine ⟨_, _, pre0 _ (go251 _ ?_), hrun, hended, _, _, rfl, ?_, ⟨_, rfl⟩, hW, hsame.mono (by decide) (by decide)⟩
    · skip
      exact retI X248 hx Bd.returns (hb hby d4_227) hr
    · show Q4_b2 Z a1 a2 bw bh bs kw kh ks k2 hs sl x0 x1 y0 y1 h0 n0 _ T248.heap _
      rw [e248]
      have F252 : Fld Z h239 a1 c_0 "width" "I" (.int (2 : Int32)) := (((F212.keep Kc221 (ninS naw nin0)).other W230 (Or.inl nah)).other W239 (Or.inl nas))
      have F253 : Fld Z h239 a1 c_0 "words" "[J" (.ref bw) := (((F208.keep Kc221 (ninS naw nin0)).other W230 (Or.inl nah)).other W239 (Or.inl nas))
      have F254 : Arv Z h239 bw kw .long (32 : Int32) ((.long x0) :: (.long x1) :: (.long y0) :: (.long y1) :: own_zl 28) (.long (0 : Int64)) := ((V221.other W230 nwh).other W239 nws)
      exact ⟨(1 : Int32), y0, y1, rfl, N239, K240, F252, F253, F254, (Or.inr ⟨rfl, (own_neT_2 hhs hsl h_hs2 h_t hb52_31), rfl, rfl⟩)⟩

theorem pn_3_b2 : plainName "com/example/grammar_game_solver/grammargamesolver/summary/NumberedSets" = true := by first | (simp [plainName, overriddenIn]; done) | decide +kernel
theorem pd3_b2_0 : parseMethodDescriptor "([JI)I" = some ⟨[(.array .long), .int], some .int⟩ := by decide +kernel
theorem ef_3_b2 (m : MethodId) (x0 : Addr) (x1 : Addr) : entryFrame m #[(.ref x0), (.ref x1)] 2 = mkF m 0 #[vr x0, vr x1] [] := by first | (simp [entryFrame, mkF, argsToLocals, Value.category]; done) | rfl
def Q3_b2 (Z : State) (a1 : Addr) (a2 : Addr) (bw : Addr) (bh : Addr) (bs : Addr) (kw : ClassId) (kh : ClassId) (ks : ClassId) (k2 : ClassId) (hs : Int32) (sl : Int32) (x0 : Int64) (x1 : Int64) (y0 : Int64) (y1 : Int64) (h0 : Heap) (n0 : Nat) (v : Option Value) (h : Heap) (L : List Loc) : Prop := ∃ n : Int32, ∃ w0 : Int64, ∃ w1 : Int64, v = some (.int n) ∧ Fr n0 L ∧ Keep h0 h [a1, bw, bh, bs] ∧ Fld Z h a1 c_0 "width" "I" (.int (2 : Int32)) ∧ Fld Z h a1 c_0 "words" "[J" (.ref bw) ∧ Arv Z h bw kw .long (32 : Int32) ((.long x0) :: (.long x1) :: (.long w0) :: (.long w1) :: own_zl 28) (.long (0 : Int64)) ∧ ((n = (0 : Int32) ∧ (x0 = y0 ∧ x1 = y1)) ∨ (n = (1 : Int32) ∧ ¬ (x0 = y0 ∧ x1 = y1) ∧ w0 = y0 ∧ w1 = y1))
set_option maxRecDepth 65536 in
set_option maxHeartbeats 40000000 in
theorem rm3_b2 (l : Launch) (Z : State) (a0 : Array Value) (hw : ∀ d ∈ tables_1, d.before a0 Z = true) (ws : List Jvm.Cond) (a1 : Addr) (a2 : Addr) (bw : Addr) (bh : Addr) (bs : Addr) (kw : ClassId) (kh : ClassId) (ks : ClassId) (k2 : ClassId) (hs : Int32) (sl : Int32) (x0 : Int64) (x1 : Int64) (y0 : Int64) (y1 : Int64) (h0 : Heap) (n0 : Nat) (Z0 : n0 ≤ h0.size) (E0 : Exa Z h0 a1 c_0) (Fwi : Fld Z h0 a1 c_0 "width" "I" (.int (2 : Int32))) (Fwo : Fld Z h0 a1 c_0 "words" "[J" (.ref bw)) (Fha : Fld Z h0 a1 c_0 "hashes" "[I" (.ref bh)) (Fsl : Fld Z h0 a1 c_0 "slots" "[I" (.ref bs)) (Fco : Fld Z h0 a1 c_0 "count" "I" (.int (1 : Int32))) (Vw : Arv Z h0 bw kw .long (32 : Int32) ((.long x0) :: (.long x1) :: own_zl 30) (.long (0 : Int64))) (Vh : Arv Z h0 bh kh .int (16 : Int32) ((.int hs) :: own_zi 15) (.int (0 : Int32))) (Vs : Arv Z h0 bs ks .int (32 : Int32) (own_sl sl) (.int (0 : Int32))) (V2 : Arv Z h0 a2 k2 .long (2 : Int32) [(.long y0), (.long y1)] (.long (0 : Int64))) (g1 : n0 ≤ a1) (gw : n0 ≤ bw) (gh : n0 ≤ bh) (gs : n0 ≤ bs) (naw : a1 ≠ bw) (nah : a1 ≠ bh) (nas : a1 ≠ bs) (n2w : a2 ≠ bw) (n2h : a2 ≠ bh) (n2s : a2 ≠ bs) (n12 : a1 ≠ a2) (nwh : bw ≠ bh) (nws : bw ≠ bs) (nhs : bh ≠ bs) (hhs : hs = (((31 : Int32) * ((31 : Int32) + (f5 x0))) + (f5 x1))) (hsl : sl = (f6 hs (31 : Int32))) :
    MetFree l y_4 (head1 (Jvm.Cond.code y_4 prog_63_method_4_code 2 (some .int) :: ws) ({ frames := 2, cells := 0, slots := 0, locals := 36 } : Room)) (fun a U => a = #[(.ref a1), (.ref a2)] ∧ Z.Warmed39 U.vm ∧ U.heap = h0) (fun _ _ _ _ _ => True) (fun _ U o U' => ∃ v L, o = .returned v ∧ Q3_b2 Z a1 a2 bw bh bs kw kh ks k2 hs sl x0 x1 y0 y1 h0 n0 v U'.heap L ∧ FrameEnd U o U' L ({ frames := 2, cells := 0, slots := 0, locals := 36 } : Room).cells ({ frames := 2, cells := 0, slots := 0, locals := 36 } : Room).slots) := by
  refine MetFree.of_bodySF (plainFor_of_name pn_3_b2) hisR ?_
  intro p e s m args below meth c s₁ Bd hml0 hP hK
  obtain ⟨rfl, hZ, hh⟩ := hP
  have hx := Bd.exec
  have hby := Bd.bytes
  have hml : c.maxLocals = 2 := hml0
  have hown : s.vm.findClass "com/example/grammar_game_solver/grammargamesolver/summary/NumberedSets" = some m.cls := findClass_of_methodNamed Bd.named
  have hnm := (name_of_methodNamed Bd.named Bd.method).1
  have X0 : Stand p l e ({ frames := 2, cells := 0, slots := 0, locals := 36 } : Room) s m #[(.ref a1), (.ref a2)] below meth c s₁ [] 0 0 := Stand.of_body Bd
  have e0 : s₁.heap = h0 := by rw [← hh, Bd.state]; rfl
  have N0 := Fr.nil n0
  have K0 : Keep h0 h0 [a1, bw, bh, bs] := Keep.refl h0 [a1, bw, bh, bs]
  obtain ⟨F0, hF0⟩ : ∃ F : JFrame, F = entryFrame m #[(.ref a1), (.ref a2)] 2 := ⟨_, rfl⟩
  have pre0 : ∀ t, Steps p.tables e below (s₁.setTop F0) t → Steps p.tables e below (s₁.setTop (entryFrame m #[(.ref a1), (.ref a2)] 2)) t := fun t k => hF0 ▸ k
  have go0 : Go p e below s₁ F0 s₁ (mkF m 0 #[vr a1, vr a2] []) := fun t k => castTop (hF0.trans (ef_3_b2 m a1 a2)) k
  have go1 : Go p e below s₁ F0 s₁ (mkF m 3 #[vr a1, vr a2] [(.int (0 : Int32)), (.ref a2), (.ref a1)]) := by
    intro t_ k_
    refine go0 t_ ?_
    refine o_aloadN X0 hx (hb hby d3_0) rfl rfl ?_
    refine o_aloadN X0 hx (hb hby d3_1) rfl rfl ?_
    refine o_iconst X0 hx (hb hby d3_2) (v := 0) rfl ?_
    exact k_
  obtain ⟨cq2, q2, q2'⟩ := E0.cell
  obtain ⟨_, _, ⟨T2, L2, k2, n2⟩, -, X2, ⟨Lc2, hQ2, l2, y2, z2⟩, st2⟩ := X0.privateBack hx (y := y_3) hown (mvT hZ (own_w hw 25 rfl)) (mvT hZ (own_w hw 26 rfl)) (own_selp (mvT hZ (own_w hw 3 rfl)) (mvP hZ (own_w hw 27 rfl)) (mvT hZ (own_w hw 26 rfl)) (by decide)) (Cond.privateMethod_at (mvP hZ (own_w hw 27 rfl) (args := #[]))) (mvT hZ (own_w hw 28 rfl)) (by decide) (backOf (W := 0) (rm4_b2 l Z a0 hw [] a1 a2 bw bh bs kw kh ks k2 hs sl x0 x1 y0 y1 h0 n0 Z0 E0 Fwi Fwo Fha Fsl Fco Vw Vh Vs V2 g1 gw gh gs naw nah nas n2w n2h n2s n12 nwh nws nhs hhs hsl) hZ (own_w hw 28 rfl) (own_w hw 4 rfl) (by decide) (by decide)) (g := (mkF m 3 #[vr a1, vr a2] [(.int (0 : Int32)), (.ref a2), (.ref a1)])) rfl (by rw [hml]; rfl) (Steps.refl _) (a := a1) (by rw [e0]; exact q2) q2' (argsL := [(.ref a2), (.int (0 : Int32))]) (rest := []) (lenOf pd3_b2_0 rfl) rfl (by show 2 * 0 + _ ≤ _; exact Nat.le_of_eq rfl) (hb hby d3_3) (fun _ _ => ⟨rfl, e0, (by decide : 0 + 0 ≤ _), (by decide : 0 + 0 ≤ _)⟩)
  dsimp only [Pt.U, Pt.locs, Pt.cells, Pt.slots] at X2 l2 y2 z2 st2 hQ2
  subst l2 y2 z2
  obtain ⟨n_2, w0_2, w1_2, rfl, Nq2, Kc2, Fwi_2, Fwo_2, Vw_2, hP_2⟩ := hQ2
  have N2 := Fr.app N0 Nq2
  have K3 : Keep h0 T2.heap [a1, bw, bh, bs] := K0.trans Kc2 (allS (Or.inl (List.mem_of_getElem? (i := 0) rfl)) (allS (Or.inl (List.mem_of_getElem? (i := 1) rfl)) (allS (Or.inl (List.mem_of_getElem? (i := 2) rfl)) (allS (Or.inl (List.mem_of_getElem? (i := 3) rfl)) all0))))
  have Z3 : n0 ≤ T2.heap.size := Nat.le_trans Z0 Kc2.1
  have go4 : Go p e below s₁ F0 T2 (mkF m 6 #[vr a1, vr a2] [(.int n_2)]) := fun t_ k_ => go1 t_ (st2.trans k_)
  obtain ⟨fs, hr, hrun, hended, hW, hsame⟩ := X2.leave (v := some (.int n_2)) (fun h => by rw [Bd.returns] at h; cases h)
  refine ⟨_, _, pre0 _ (go4 _ ?_), hrun, hended, _, _, rfl, ?_, ⟨_, rfl⟩, hW, hsame.mono (by decide) (by decide)⟩
  · skip
    exact retI X2 hx Bd.returns (hb hby d3_6) hr
  · show Q3_b2 Z a1 a2 bw bh bs kw kh ks k2 hs sl x0 x1 y0 y1 h0 n0 _ T2.heap _
    exact ⟨n_2, w0_2, w1_2, rfl, N2, K3, Fwi_2, Fwo_2, Vw_2, (by first | assumption | decide | omega)⟩


theorem own_or {n : Int32} {P R : Prop} (h : (n = (0 : Int32) ∧ P) ∨ (n = (1 : Int32) ∧ R)) : n = (0 : Int32) ∨ n = (1 : Int32) := h.imp And.left And.left
theorem own_l {n : Int32} {P R : Prop} (h : (n = (0 : Int32) ∧ P) ∨ (n = (1 : Int32) ∧ R)) (e : n = (0 : Int32)) : P := by
  rcases h with h | h
  · exact h.2
  · exact absurd (e.symm.trans h.1) (by decide)
theorem own_r {n : Int32} {P R : Prop} (h : (n = (0 : Int32) ∧ P) ∨ (n = (1 : Int32) ∧ R)) (e : n = (1 : Int32)) : R := by
  rcases h with h | h
  · exact absurd (e.symm.trans h.1) (by decide)
  · exact h.2

theorem d8_0 : decode prog_63_method_8_code 0 = .ok (.aload_n 0, 1) := by decide +kernel
theorem d8_1 : decode prog_63_method_8_code 1 = .ok (.getfield 13, 3) := by decide +kernel
theorem d8_4 : decode prog_63_method_8_code 4 = .ok (.iload_n 1, 1) := by decide +kernel
theorem d8_5 : decode prog_63_method_8_code 5 = .ok (.aload_n 0, 1) := by decide +kernel
theorem d8_6 : decode prog_63_method_8_code 6 = .ok (.getfield 7, 3) := by decide +kernel
theorem d8_9 : decode prog_63_method_8_code 9 = .ok (.imul, 1) := by decide +kernel
theorem d8_10 : decode prog_63_method_8_code 10 = .ok (.iload_n 2, 1) := by decide +kernel
theorem d8_11 : decode prog_63_method_8_code 11 = .ok (.bipush 64, 2) := by decide +kernel
theorem d8_13 : decode prog_63_method_8_code 13 = .ok (.idiv, 1) := by decide +kernel
theorem d8_14 : decode prog_63_method_8_code 14 = .ok (.iadd, 1) := by decide +kernel
theorem d8_15 : decode prog_63_method_8_code 15 = .ok (.laload, 1) := by decide +kernel
theorem d8_16 : decode prog_63_method_8_code 16 = .ok (.lconst 1, 1) := by decide +kernel
theorem d8_17 : decode prog_63_method_8_code 17 = .ok (.iload_n 2, 1) := by decide +kernel
theorem d8_18 : decode prog_63_method_8_code 18 = .ok (.lshl, 1) := by decide +kernel
theorem d8_19 : decode prog_63_method_8_code 19 = .ok (.land, 1) := by decide +kernel
theorem d8_20 : decode prog_63_method_8_code 20 = .ok (.lconst 0, 1) := by decide +kernel
theorem d8_21 : decode prog_63_method_8_code 21 = .ok (.lcmp, 1) := by decide +kernel
theorem d8_22 : decode prog_63_method_8_code 22 = .ok (.ifCond .eq 7, 3) := by decide +kernel
theorem d8_25 : decode prog_63_method_8_code 25 = .ok (.iconst 1, 1) := by decide +kernel
theorem d8_26 : decode prog_63_method_8_code 26 = .ok (.goto 4, 3) := by decide +kernel
theorem d8_29 : decode prog_63_method_8_code 29 = .ok (.iconst 0, 1) := by decide +kernel
theorem d8_30 : decode prog_63_method_8_code 30 = .ok (.ireturn, 1) := by decide +kernel
theorem pn_8_1_0_0 : plainName "com/example/grammar_game_solver/grammargamesolver/summary/NumberedSets" = true := by first | (simp [plainName, overriddenIn]; done) | decide +kernel
theorem ef_8_1_0_0 (m : MethodId) (x0 : Addr) (x2 : Int32) : entryFrame m #[(.ref x0), (.int (0 : Int32)), (.int x2)] 3 = mkF m 0 #[vr x0, vi (0 : Int32), vi x2] [] := by first | (simp [entryFrame, mkF, argsToLocals, Value.category]; done) | rfl
def f8_1_0_0 (p3 : Int32) (w0 : Int64) (w1 : Int64) : Int32 := (if (w0 &&& ((1 : Int64) <<< (p3 &&& 0x3f).toInt64)) = (0 : Int64) then (0 : Int32) else (1 : Int32))
def Q8_1_0_0 (Z : State) (a1 : Addr) (p3 : Int32) (bw : Addr) (kw : ClassId) (w0 : Int64) (w1 : Int64) (h0 : Heap) (n0 : Nat) (v : Option Value) (h : Heap) (L : List Loc) : Prop := v = some (.int (f8_1_0_0 p3 w0 w1)) ∧ Fr n0 L ∧ h = h0
set_option maxRecDepth 65536 in
set_option maxHeartbeats 40000000 in
theorem rm8_1_0_0 (l : Launch) (Z : State) (a0 : Array Value) (hw : ∀ d ∈ tables_1, d.before a0 Z = true) (ws : List Jvm.Cond) (a1 : Addr) (p3 : Int32) (bw : Addr) (kw : ClassId) (w0 : Int64) (w1 : Int64) (h0 : Heap) (n0 : Nat) (Z0 : n0 ≤ h0.size) (Fwi : Fld Z h0 a1 c_0 "width" "I" (.int (1 : Int32))) (Fwo : Fld Z h0 a1 c_0 "words" "[J" (.ref bw)) (Vw : Arv Z h0 bw kw .long (16 : Int32) ((.long w0) :: (.long w1) :: own_zl 14) (.long (0 : Int64))) (hk : (p3 / (64 : Int32)) = (0 : Int32)) :
    MetFree l y_6 (head1 (Jvm.Cond.code y_6 prog_63_method_8_code 3 (some .boolean) :: ws) ({ frames := 0, cells := 0, slots := 0, locals := 0 } : Room)) (fun a U => a = #[(.ref a1), (.int (0 : Int32)), (.int p3)] ∧ Z.Warmed39 U.vm ∧ U.heap = h0) (fun _ _ _ _ _ => True) (fun _ U o U' => ∃ v L, o = .returned v ∧ Q8_1_0_0 Z a1 p3 bw kw w0 w1 h0 n0 v U'.heap L ∧ FrameEnd U o U' L ({ frames := 0, cells := 0, slots := 0, locals := 0 } : Room).cells ({ frames := 0, cells := 0, slots := 0, locals := 0 } : Room).slots) := by
  refine MetFree.of_bodySF (plainFor_of_name pn_8_1_0_0) hisR ?_
  intro p e s m args below meth c s₁ Bd hml0 hP hK
  obtain ⟨rfl, hZ, hh⟩ := hP
  have hx := Bd.exec
  have hby := Bd.bytes
  have hml : c.maxLocals = 3 := hml0
  have hown : s.vm.findClass "com/example/grammar_game_solver/grammargamesolver/summary/NumberedSets" = some m.cls := findClass_of_methodNamed Bd.named
  have hnm := (name_of_methodNamed Bd.named Bd.method).1
  have X0 : Stand p l e ({ frames := 0, cells := 0, slots := 0, locals := 0 } : Room) s m #[(.ref a1), (.int (0 : Int32)), (.int p3)] below meth c s₁ [] 0 0 := Stand.of_body Bd
  have e0 : s₁.heap = h0 := by rw [← hh, Bd.state]; rfl
  have N0 := Fr.nil n0
  obtain ⟨F0, hF0⟩ : ∃ F : JFrame, F = entryFrame m #[(.ref a1), (.int (0 : Int32)), (.int p3)] 3 := ⟨_, rfl⟩
  have pre0 : ∀ t, Steps p.tables e below (s₁.setTop F0) t → Steps p.tables e below (s₁.setTop (entryFrame m #[(.ref a1), (.int (0 : Int32)), (.int p3)] 3)) t := fun t k => hF0 ▸ k
  have go0 : Go p e below s₁ F0 s₁ (mkF m 0 #[vr a1, vi (0 : Int32), vi p3] []) := fun t k => castTop (hF0.trans (ef_8_1_0_0 m a1 p3)) k
  have go1 : Go p e below s₁ F0 s₁ (mkF m 1 #[vr a1, vi (0 : Int32), vi p3] [(.ref a1)]) := by
    intro t_ k_
    refine go0 t_ ?_
    refine o_aloadN X0 hx (hb hby d8_0) rfl rfl ?_
    exact k_
  obtain ⟨T2, X2, e2, st2⟩ := getF X0 hx hZ hown (host := "") (Or.inl (own_w hw 13 rfl)) Via.refl e0 Fwo (g := (mkF m 1 #[vr a1, vi (0 : Int32), vi p3] [(.ref a1)])) rfl rfl (hb hby d8_1)
  have go3 : Go p e below s₁ F0 T2 (mkF m 4 #[vr a1, vi (0 : Int32), vi p3] [(.ref bw)]) := fun t_ k_ => go1 t_ (st2 t_ k_)
  have go4 : Go p e below s₁ F0 T2 (mkF m 6 #[vr a1, vi (0 : Int32), vi p3] [(.ref a1), (.int (0 : Int32)), (.ref bw)]) := by
    intro t_ k_
    refine go3 t_ ?_
    refine o_iloadN X2 hx (hb hby d8_4) rfl ?_
    refine o_aloadN X2 hx (hb hby d8_5) rfl rfl ?_
    exact k_
  obtain ⟨T5, X5, e5, st5⟩ := getF X2 hx hZ hown (host := "") (Or.inl (own_w hw 11 rfl)) Via.refl e2 Fwi (g := (mkF m 6 #[vr a1, vi (0 : Int32), vi p3] [(.ref a1), (.int (0 : Int32)), (.ref bw)])) rfl rfl (hb hby d8_6)
  have go6 : Go p e below s₁ F0 T5 (mkF m 9 #[vr a1, vi (0 : Int32), vi p3] [(.int (1 : Int32)), (.int (0 : Int32)), (.ref bw)]) := fun t_ k_ => go4 t_ (st5 t_ k_)
  have go7 : Go p e below s₁ F0 T5 (mkF m 14 #[vr a1, vi (0 : Int32), vi p3] [(.int (p3 / (64 : Int32))), (.int (0 : Int32)), (.ref bw)]) := by
    intro t_ k_
    refine go6 t_ ?_
    refine o_imulE X5 hx (hb hby d8_9) (v := 0) rfl ?_
    refine o_iloadN X5 hx (hb hby d8_10) rfl ?_
    refine o_bipush X5 hx (hb hby d8_11) (v := 64) rfl ?_
    refine o_idiv X5 hx (hb hby d8_13) (by decide) ?_
    exact k_
  have hcs8 : (p3 / (64 : Int32)) = (0 : Int32) := hk
  rcases hcs8 with hcs8
  · skip
    have go9 : Go p e below s₁ F0 T5 (mkF m 14 #[vr a1, vi (0 : Int32), vi p3] [(.int (0 : Int32)), (.int (0 : Int32)), (.ref bw)]) := by rw [hcs8] at go7; exact go7
    have go10 : Go p e below s₁ F0 T5 (mkF m 15 #[vr a1, vi (0 : Int32), vi p3] [(.int (0 : Int32)), (.ref bw)]) := by
      intro t_ k_
      refine go9 t_ ?_
      refine o_iaddE X5 hx (hb hby d8_14) (v := 0) rfl ?_
      exact k_
    obtain ⟨cl11, Ar11, -, Sz11, Nn11, Hs11, -⟩ := id Vw
    have hin11 : ¬ ((0 : Int32) < 0 ∨ cl11.slots.size ≤ ((0 : Int32)).toNatClampNeg) := inb_of Sz11 ⟨by decide, by decide⟩
    have hat11 : cl11.slots[((0 : Int32)).toNatClampNeg]? = some (.long w0) := Hs11.at hin11 rfl
    have go12 : Go p e below s₁ F0 T5 (mkF m 22 #[vr a1, vi (0 : Int32), vi p3] [(.int (lcmpW (w0 &&& ((1 : Int64) <<< (p3 &&& 0x3f).toInt64)) (0 : Int64)))]) := by
      intro t_ k_
      refine go10 t_ ?_
      refine o_laload X5 hx hZ e5 Ar11 hin11 hat11 (hb hby d8_15) ?_
      refine o_lconst X5 hx (hb hby d8_16) (v := 1) rfl ?_
      refine o_iloadN X5 hx (hb hby d8_17) rfl ?_
      refine o_lshl X5 hx (hb hby d8_18) ?_
      refine o_land X5 hx (hb hby d8_19) ?_
      refine o_lconst X5 hx (hb hby d8_20) (v := 0) rfl ?_
      refine o_lcmp X5 hx (hb hby d8_21) ?_
      exact k_
    by_cases hc22_13 : (w0 &&& ((1 : Int64) <<< (p3 &&& 0x3f).toInt64)) = (0 : Int64)
    · skip
      have go14 : Go p e below s₁ F0 T5 (mkF m 30 #[vr a1, vi (0 : Int32), vi p3] [(.int (0 : Int32))]) := by
        intro t_ k_
        refine go12 t_ ?_
        refine o_ifYes X5 hx (hb hby d8_22) (pc' := 29) rfl (by decide) ((if0 _ _).trans (teq ((lw_eq _ _).mpr hc22_13)).1) ?_
        refine o_iconst X5 hx (hb hby d8_29) (v := 0) rfl ?_
        exact k_
      obtain ⟨fs, hr, hrun, hended, hW, hsame⟩ := X5.leave (v := some (.int (0 : Int32))) (fun h => by rw [Bd.returns] at h; cases h)
      refine ⟨_, _, pre0 _ (go14 _ ?_), hrun, hended, _, _, rfl, ?_, ⟨_, rfl⟩, hW, hsame.mono (by decide) (by decide)⟩
      · skip
        exact retN X5 hx (t := .boolean) Bd.returns (by simp) (hb hby d8_30) hr
      · show Q8_1_0_0 Z a1 p3 bw kw w0 w1 h0 n0 _ T5.heap _
        rw [e5]
        exact ⟨(congrArg (fun z => some (Value.int z)) (show (0 : Int32) = f8_1_0_0 p3 w0 w1 from by unfold f8_1_0_0; rw [if_pos hc22_13])), N0, rfl⟩
    · skip
      have go15 : Go p e below s₁ F0 T5 (mkF m 30 #[vr a1, vi (0 : Int32), vi p3] [(.int (1 : Int32))]) := by
        intro t_ k_
        refine go12 t_ ?_
        refine o_ifNo X5 hx (hb hby d8_22) ((if0 _ _).trans (feq (fun q => hc22_13 ((lw_eq _ _).mp q))).1) ?_
        refine o_iconst X5 hx (hb hby d8_25) (v := 1) rfl ?_
        refine o_goto X5 hx (hb hby d8_26) (pc' := 30) rfl (by decide) ?_
        exact k_
      obtain ⟨fs, hr, hrun, hended, hW, hsame⟩ := X5.leave (v := some (.int (1 : Int32))) (fun h => by rw [Bd.returns] at h; cases h)
      refine ⟨_, _, pre0 _ (go15 _ ?_), hrun, hended, _, _, rfl, ?_, ⟨_, rfl⟩, hW, hsame.mono (by decide) (by decide)⟩
      · skip
        exact retN X5 hx (t := .boolean) Bd.returns (by simp) (hb hby d8_30) hr
      · show Q8_1_0_0 Z a1 p3 bw kw w0 w1 h0 n0 _ T5.heap _
        rw [e5]
        exact ⟨(congrArg (fun z => some (Value.int z)) (show (1 : Int32) = f8_1_0_0 p3 w0 w1 from by unfold f8_1_0_0; rw [if_neg hc22_13])), N0, rfl⟩

theorem pn_8_1_1_0 : plainName "com/example/grammar_game_solver/grammargamesolver/summary/NumberedSets" = true := by first | (simp [plainName, overriddenIn]; done) | decide +kernel
theorem ef_8_1_1_0 (m : MethodId) (x0 : Addr) (x2 : Int32) : entryFrame m #[(.ref x0), (.int (1 : Int32)), (.int x2)] 3 = mkF m 0 #[vr x0, vi (1 : Int32), vi x2] [] := by first | (simp [entryFrame, mkF, argsToLocals, Value.category]; done) | rfl
def f8_1_1_0 (p3 : Int32) (w0 : Int64) (w1 : Int64) : Int32 := (if (w1 &&& ((1 : Int64) <<< (p3 &&& 0x3f).toInt64)) = (0 : Int64) then (0 : Int32) else (1 : Int32))
def Q8_1_1_0 (Z : State) (a1 : Addr) (p3 : Int32) (bw : Addr) (kw : ClassId) (w0 : Int64) (w1 : Int64) (h0 : Heap) (n0 : Nat) (v : Option Value) (h : Heap) (L : List Loc) : Prop := v = some (.int (f8_1_1_0 p3 w0 w1)) ∧ Fr n0 L ∧ h = h0
set_option maxRecDepth 65536 in
set_option maxHeartbeats 40000000 in
theorem rm8_1_1_0 (l : Launch) (Z : State) (a0 : Array Value) (hw : ∀ d ∈ tables_1, d.before a0 Z = true) (ws : List Jvm.Cond) (a1 : Addr) (p3 : Int32) (bw : Addr) (kw : ClassId) (w0 : Int64) (w1 : Int64) (h0 : Heap) (n0 : Nat) (Z0 : n0 ≤ h0.size) (Fwi : Fld Z h0 a1 c_0 "width" "I" (.int (1 : Int32))) (Fwo : Fld Z h0 a1 c_0 "words" "[J" (.ref bw)) (Vw : Arv Z h0 bw kw .long (16 : Int32) ((.long w0) :: (.long w1) :: own_zl 14) (.long (0 : Int64))) (hk : (p3 / (64 : Int32)) = (0 : Int32)) :
    MetFree l y_6 (head1 (Jvm.Cond.code y_6 prog_63_method_8_code 3 (some .boolean) :: ws) ({ frames := 0, cells := 0, slots := 0, locals := 0 } : Room)) (fun a U => a = #[(.ref a1), (.int (1 : Int32)), (.int p3)] ∧ Z.Warmed39 U.vm ∧ U.heap = h0) (fun _ _ _ _ _ => True) (fun _ U o U' => ∃ v L, o = .returned v ∧ Q8_1_1_0 Z a1 p3 bw kw w0 w1 h0 n0 v U'.heap L ∧ FrameEnd U o U' L ({ frames := 0, cells := 0, slots := 0, locals := 0 } : Room).cells ({ frames := 0, cells := 0, slots := 0, locals := 0 } : Room).slots) := by
  refine MetFree.of_bodySF (plainFor_of_name pn_8_1_1_0) hisR ?_
  intro p e s m args below meth c s₁ Bd hml0 hP hK
  obtain ⟨rfl, hZ, hh⟩ := hP
  have hx := Bd.exec
  have hby := Bd.bytes
  have hml : c.maxLocals = 3 := hml0
  have hown : s.vm.findClass "com/example/grammar_game_solver/grammargamesolver/summary/NumberedSets" = some m.cls := findClass_of_methodNamed Bd.named
  have hnm := (name_of_methodNamed Bd.named Bd.method).1
  have X0 : Stand p l e ({ frames := 0, cells := 0, slots := 0, locals := 0 } : Room) s m #[(.ref a1), (.int (1 : Int32)), (.int p3)] below meth c s₁ [] 0 0 := Stand.of_body Bd
  have e0 : s₁.heap = h0 := by rw [← hh, Bd.state]; rfl
  have N0 := Fr.nil n0
  obtain ⟨F0, hF0⟩ : ∃ F : JFrame, F = entryFrame m #[(.ref a1), (.int (1 : Int32)), (.int p3)] 3 := ⟨_, rfl⟩
  have pre0 : ∀ t, Steps p.tables e below (s₁.setTop F0) t → Steps p.tables e below (s₁.setTop (entryFrame m #[(.ref a1), (.int (1 : Int32)), (.int p3)] 3)) t := fun t k => hF0 ▸ k
  have go0 : Go p e below s₁ F0 s₁ (mkF m 0 #[vr a1, vi (1 : Int32), vi p3] []) := fun t k => castTop (hF0.trans (ef_8_1_1_0 m a1 p3)) k
  have go1 : Go p e below s₁ F0 s₁ (mkF m 1 #[vr a1, vi (1 : Int32), vi p3] [(.ref a1)]) := by
    intro t_ k_
    refine go0 t_ ?_
    refine o_aloadN X0 hx (hb hby d8_0) rfl rfl ?_
    exact k_
  obtain ⟨T2, X2, e2, st2⟩ := getF X0 hx hZ hown (host := "") (Or.inl (own_w hw 13 rfl)) Via.refl e0 Fwo (g := (mkF m 1 #[vr a1, vi (1 : Int32), vi p3] [(.ref a1)])) rfl rfl (hb hby d8_1)
  have go3 : Go p e below s₁ F0 T2 (mkF m 4 #[vr a1, vi (1 : Int32), vi p3] [(.ref bw)]) := fun t_ k_ => go1 t_ (st2 t_ k_)
  have go4 : Go p e below s₁ F0 T2 (mkF m 6 #[vr a1, vi (1 : Int32), vi p3] [(.ref a1), (.int (1 : Int32)), (.ref bw)]) := by
    intro t_ k_
    refine go3 t_ ?_
    refine o_iloadN X2 hx (hb hby d8_4) rfl ?_
    refine o_aloadN X2 hx (hb hby d8_5) rfl rfl ?_
    exact k_
  obtain ⟨T5, X5, e5, st5⟩ := getF X2 hx hZ hown (host := "") (Or.inl (own_w hw 11 rfl)) Via.refl e2 Fwi (g := (mkF m 6 #[vr a1, vi (1 : Int32), vi p3] [(.ref a1), (.int (1 : Int32)), (.ref bw)])) rfl rfl (hb hby d8_6)
  have go6 : Go p e below s₁ F0 T5 (mkF m 9 #[vr a1, vi (1 : Int32), vi p3] [(.int (1 : Int32)), (.int (1 : Int32)), (.ref bw)]) := fun t_ k_ => go4 t_ (st5 t_ k_)
  have go7 : Go p e below s₁ F0 T5 (mkF m 14 #[vr a1, vi (1 : Int32), vi p3] [(.int (p3 / (64 : Int32))), (.int (1 : Int32)), (.ref bw)]) := by
    intro t_ k_
    refine go6 t_ ?_
    refine o_imulE X5 hx (hb hby d8_9) (v := 1) rfl ?_
    refine o_iloadN X5 hx (hb hby d8_10) rfl ?_
    refine o_bipush X5 hx (hb hby d8_11) (v := 64) rfl ?_
    refine o_idiv X5 hx (hb hby d8_13) (by decide) ?_
    exact k_
  have hcs8 : (p3 / (64 : Int32)) = (0 : Int32) := hk
  rcases hcs8 with hcs8
  · skip
    have go9 : Go p e below s₁ F0 T5 (mkF m 14 #[vr a1, vi (1 : Int32), vi p3] [(.int (0 : Int32)), (.int (1 : Int32)), (.ref bw)]) := by rw [hcs8] at go7; exact go7
    have go10 : Go p e below s₁ F0 T5 (mkF m 15 #[vr a1, vi (1 : Int32), vi p3] [(.int (1 : Int32)), (.ref bw)]) := by
      intro t_ k_
      refine go9 t_ ?_
      refine o_iaddE X5 hx (hb hby d8_14) (v := 1) rfl ?_
      exact k_
    obtain ⟨cl11, Ar11, -, Sz11, Nn11, Hs11, -⟩ := id Vw
    have hin11 : ¬ ((1 : Int32) < 0 ∨ cl11.slots.size ≤ ((1 : Int32)).toNatClampNeg) := inb_of Sz11 ⟨by decide, by decide⟩
    have hat11 : cl11.slots[((1 : Int32)).toNatClampNeg]? = some (.long w1) := Hs11.at hin11 rfl
    have go12 : Go p e below s₁ F0 T5 (mkF m 22 #[vr a1, vi (1 : Int32), vi p3] [(.int (lcmpW (w1 &&& ((1 : Int64) <<< (p3 &&& 0x3f).toInt64)) (0 : Int64)))]) := by
      intro t_ k_
      refine go10 t_ ?_
      refine o_laload X5 hx hZ e5 Ar11 hin11 hat11 (hb hby d8_15) ?_
      refine o_lconst X5 hx (hb hby d8_16) (v := 1) rfl ?_
      refine o_iloadN X5 hx (hb hby d8_17) rfl ?_
      refine o_lshl X5 hx (hb hby d8_18) ?_
      refine o_land X5 hx (hb hby d8_19) ?_
      refine o_lconst X5 hx (hb hby d8_20) (v := 0) rfl ?_
      refine o_lcmp X5 hx (hb hby d8_21) ?_
      exact k_
    by_cases hc22_13 : (w1 &&& ((1 : Int64) <<< (p3 &&& 0x3f).toInt64)) = (0 : Int64)
    · skip
      have go14 : Go p e below s₁ F0 T5 (mkF m 30 #[vr a1, vi (1 : Int32), vi p3] [(.int (0 : Int32))]) := by
        intro t_ k_
        refine go12 t_ ?_
        refine o_ifYes X5 hx (hb hby d8_22) (pc' := 29) rfl (by decide) ((if0 _ _).trans (teq ((lw_eq _ _).mpr hc22_13)).1) ?_
        refine o_iconst X5 hx (hb hby d8_29) (v := 0) rfl ?_
        exact k_
      obtain ⟨fs, hr, hrun, hended, hW, hsame⟩ := X5.leave (v := some (.int (0 : Int32))) (fun h => by rw [Bd.returns] at h; cases h)
      refine ⟨_, _, pre0 _ (go14 _ ?_), hrun, hended, _, _, rfl, ?_, ⟨_, rfl⟩, hW, hsame.mono (by decide) (by decide)⟩
      · skip
        exact retN X5 hx (t := .boolean) Bd.returns (by simp) (hb hby d8_30) hr
      · show Q8_1_1_0 Z a1 p3 bw kw w0 w1 h0 n0 _ T5.heap _
        rw [e5]
        exact ⟨(congrArg (fun z => some (Value.int z)) (show (0 : Int32) = f8_1_1_0 p3 w0 w1 from by unfold f8_1_1_0; rw [if_pos hc22_13])), N0, rfl⟩
    · skip
      have go15 : Go p e below s₁ F0 T5 (mkF m 30 #[vr a1, vi (1 : Int32), vi p3] [(.int (1 : Int32))]) := by
        intro t_ k_
        refine go12 t_ ?_
        refine o_ifNo X5 hx (hb hby d8_22) ((if0 _ _).trans (feq (fun q => hc22_13 ((lw_eq _ _).mp q))).1) ?_
        refine o_iconst X5 hx (hb hby d8_25) (v := 1) rfl ?_
        refine o_goto X5 hx (hb hby d8_26) (pc' := 30) rfl (by decide) ?_
        exact k_
      obtain ⟨fs, hr, hrun, hended, hW, hsame⟩ := X5.leave (v := some (.int (1 : Int32))) (fun h => by rw [Bd.returns] at h; cases h)
      refine ⟨_, _, pre0 _ (go15 _ ?_), hrun, hended, _, _, rfl, ?_, ⟨_, rfl⟩, hW, hsame.mono (by decide) (by decide)⟩
      · skip
        exact retN X5 hx (t := .boolean) Bd.returns (by simp) (hb hby d8_30) hr
      · show Q8_1_1_0 Z a1 p3 bw kw w0 w1 h0 n0 _ T5.heap _
        rw [e5]
        exact ⟨(congrArg (fun z => some (Value.int z)) (show (1 : Int32) = f8_1_1_0 p3 w0 w1 from by unfold f8_1_1_0; rw [if_neg hc22_13])), N0, rfl⟩

theorem pn_8_2_0_0 : plainName "com/example/grammar_game_solver/grammargamesolver/summary/NumberedSets" = true := by first | (simp [plainName, overriddenIn]; done) | decide +kernel
theorem ef_8_2_0_0 (m : MethodId) (x0 : Addr) (x2 : Int32) : entryFrame m #[(.ref x0), (.int (0 : Int32)), (.int x2)] 3 = mkF m 0 #[vr x0, vi (0 : Int32), vi x2] [] := by first | (simp [entryFrame, mkF, argsToLocals, Value.category]; done) | rfl
def f8_2_0_0 (p3 : Int32) (w0 : Int64) (w1 : Int64) (w2 : Int64) (w3 : Int64) : Int32 := (if (w0 &&& ((1 : Int64) <<< (p3 &&& 0x3f).toInt64)) = (0 : Int64) then (0 : Int32) else (1 : Int32))
def Q8_2_0_0 (Z : State) (a1 : Addr) (p3 : Int32) (bw : Addr) (kw : ClassId) (w0 : Int64) (w1 : Int64) (w2 : Int64) (w3 : Int64) (h0 : Heap) (n0 : Nat) (v : Option Value) (h : Heap) (L : List Loc) : Prop := v = some (.int (f8_2_0_0 p3 w0 w1 w2 w3)) ∧ Fr n0 L ∧ h = h0
set_option maxRecDepth 65536 in
set_option maxHeartbeats 40000000 in
theorem rm8_2_0_0 (l : Launch) (Z : State) (a0 : Array Value) (hw : ∀ d ∈ tables_1, d.before a0 Z = true) (ws : List Jvm.Cond) (a1 : Addr) (p3 : Int32) (bw : Addr) (kw : ClassId) (w0 : Int64) (w1 : Int64) (w2 : Int64) (w3 : Int64) (h0 : Heap) (n0 : Nat) (Z0 : n0 ≤ h0.size) (Fwi : Fld Z h0 a1 c_0 "width" "I" (.int (2 : Int32))) (Fwo : Fld Z h0 a1 c_0 "words" "[J" (.ref bw)) (Vw : Arv Z h0 bw kw .long (32 : Int32) ((.long w0) :: (.long w1) :: (.long w2) :: (.long w3) :: own_zl 28) (.long (0 : Int64))) (hk : (p3 / (64 : Int32)) = (0 : Int32)) :
    MetFree l y_6 (head1 (Jvm.Cond.code y_6 prog_63_method_8_code 3 (some .boolean) :: ws) ({ frames := 0, cells := 0, slots := 0, locals := 0 } : Room)) (fun a U => a = #[(.ref a1), (.int (0 : Int32)), (.int p3)] ∧ Z.Warmed39 U.vm ∧ U.heap = h0) (fun _ _ _ _ _ => True) (fun _ U o U' => ∃ v L, o = .returned v ∧ Q8_2_0_0 Z a1 p3 bw kw w0 w1 w2 w3 h0 n0 v U'.heap L ∧ FrameEnd U o U' L ({ frames := 0, cells := 0, slots := 0, locals := 0 } : Room).cells ({ frames := 0, cells := 0, slots := 0, locals := 0 } : Room).slots) := by
  refine MetFree.of_bodySF (plainFor_of_name pn_8_2_0_0) hisR ?_
  intro p e s m args below meth c s₁ Bd hml0 hP hK
  obtain ⟨rfl, hZ, hh⟩ := hP
  have hx := Bd.exec
  have hby := Bd.bytes
  have hml : c.maxLocals = 3 := hml0
  have hown : s.vm.findClass "com/example/grammar_game_solver/grammargamesolver/summary/NumberedSets" = some m.cls := findClass_of_methodNamed Bd.named
  have hnm := (name_of_methodNamed Bd.named Bd.method).1
  have X0 : Stand p l e ({ frames := 0, cells := 0, slots := 0, locals := 0 } : Room) s m #[(.ref a1), (.int (0 : Int32)), (.int p3)] below meth c s₁ [] 0 0 := Stand.of_body Bd
  have e0 : s₁.heap = h0 := by rw [← hh, Bd.state]; rfl
  have N0 := Fr.nil n0
  obtain ⟨F0, hF0⟩ : ∃ F : JFrame, F = entryFrame m #[(.ref a1), (.int (0 : Int32)), (.int p3)] 3 := ⟨_, rfl⟩
  have pre0 : ∀ t, Steps p.tables e below (s₁.setTop F0) t → Steps p.tables e below (s₁.setTop (entryFrame m #[(.ref a1), (.int (0 : Int32)), (.int p3)] 3)) t := fun t k => hF0 ▸ k
  have go0 : Go p e below s₁ F0 s₁ (mkF m 0 #[vr a1, vi (0 : Int32), vi p3] []) := fun t k => castTop (hF0.trans (ef_8_2_0_0 m a1 p3)) k
  have go1 : Go p e below s₁ F0 s₁ (mkF m 1 #[vr a1, vi (0 : Int32), vi p3] [(.ref a1)]) := by
    intro t_ k_
    refine go0 t_ ?_
    refine o_aloadN X0 hx (hb hby d8_0) rfl rfl ?_
    exact k_
  obtain ⟨T2, X2, e2, st2⟩ := getF X0 hx hZ hown (host := "") (Or.inl (own_w hw 13 rfl)) Via.refl e0 Fwo (g := (mkF m 1 #[vr a1, vi (0 : Int32), vi p3] [(.ref a1)])) rfl rfl (hb hby d8_1)
  have go3 : Go p e below s₁ F0 T2 (mkF m 4 #[vr a1, vi (0 : Int32), vi p3] [(.ref bw)]) := fun t_ k_ => go1 t_ (st2 t_ k_)
  have go4 : Go p e below s₁ F0 T2 (mkF m 6 #[vr a1, vi (0 : Int32), vi p3] [(.ref a1), (.int (0 : Int32)), (.ref bw)]) := by
    intro t_ k_
    refine go3 t_ ?_
    refine o_iloadN X2 hx (hb hby d8_4) rfl ?_
    refine o_aloadN X2 hx (hb hby d8_5) rfl rfl ?_
    exact k_
  obtain ⟨T5, X5, e5, st5⟩ := getF X2 hx hZ hown (host := "") (Or.inl (own_w hw 11 rfl)) Via.refl e2 Fwi (g := (mkF m 6 #[vr a1, vi (0 : Int32), vi p3] [(.ref a1), (.int (0 : Int32)), (.ref bw)])) rfl rfl (hb hby d8_6)
  have go6 : Go p e below s₁ F0 T5 (mkF m 9 #[vr a1, vi (0 : Int32), vi p3] [(.int (2 : Int32)), (.int (0 : Int32)), (.ref bw)]) := fun t_ k_ => go4 t_ (st5 t_ k_)
  have go7 : Go p e below s₁ F0 T5 (mkF m 14 #[vr a1, vi (0 : Int32), vi p3] [(.int (p3 / (64 : Int32))), (.int (0 : Int32)), (.ref bw)]) := by
    intro t_ k_
    refine go6 t_ ?_
    refine o_imulE X5 hx (hb hby d8_9) (v := 0) rfl ?_
    refine o_iloadN X5 hx (hb hby d8_10) rfl ?_
    refine o_bipush X5 hx (hb hby d8_11) (v := 64) rfl ?_
    refine o_idiv X5 hx (hb hby d8_13) (by decide) ?_
    exact k_
  have hcs8 : (p3 / (64 : Int32)) = (0 : Int32) := hk
  rcases hcs8 with hcs8
  · skip
    have go9 : Go p e below s₁ F0 T5 (mkF m 14 #[vr a1, vi (0 : Int32), vi p3] [(.int (0 : Int32)), (.int (0 : Int32)), (.ref bw)]) := by rw [hcs8] at go7; exact go7
    have go10 : Go p e below s₁ F0 T5 (mkF m 15 #[vr a1, vi (0 : Int32), vi p3] [(.int (0 : Int32)), (.ref bw)]) := by
      intro t_ k_
      refine go9 t_ ?_
      refine o_iaddE X5 hx (hb hby d8_14) (v := 0) rfl ?_
      exact k_
    obtain ⟨cl11, Ar11, -, Sz11, Nn11, Hs11, -⟩ := id Vw
    have hin11 : ¬ ((0 : Int32) < 0 ∨ cl11.slots.size ≤ ((0 : Int32)).toNatClampNeg) := inb_of Sz11 ⟨by decide, by decide⟩
    have hat11 : cl11.slots[((0 : Int32)).toNatClampNeg]? = some (.long w0) := Hs11.at hin11 rfl
    have go12 : Go p e below s₁ F0 T5 (mkF m 22 #[vr a1, vi (0 : Int32), vi p3] [(.int (lcmpW (w0 &&& ((1 : Int64) <<< (p3 &&& 0x3f).toInt64)) (0 : Int64)))]) := by
      intro t_ k_
      refine go10 t_ ?_
      refine o_laload X5 hx hZ e5 Ar11 hin11 hat11 (hb hby d8_15) ?_
      refine o_lconst X5 hx (hb hby d8_16) (v := 1) rfl ?_
      refine o_iloadN X5 hx (hb hby d8_17) rfl ?_
      refine o_lshl X5 hx (hb hby d8_18) ?_
      refine o_land X5 hx (hb hby d8_19) ?_
      refine o_lconst X5 hx (hb hby d8_20) (v := 0) rfl ?_
      refine o_lcmp X5 hx (hb hby d8_21) ?_
      exact k_
    by_cases hc22_13 : (w0 &&& ((1 : Int64) <<< (p3 &&& 0x3f).toInt64)) = (0 : Int64)
    · skip
      have go14 : Go p e below s₁ F0 T5 (mkF m 30 #[vr a1, vi (0 : Int32), vi p3] [(.int (0 : Int32))]) := by
        intro t_ k_
        refine go12 t_ ?_
        refine o_ifYes X5 hx (hb hby d8_22) (pc' := 29) rfl (by decide) ((if0 _ _).trans (teq ((lw_eq _ _).mpr hc22_13)).1) ?_
        refine o_iconst X5 hx (hb hby d8_29) (v := 0) rfl ?_
        exact k_
      obtain ⟨fs, hr, hrun, hended, hW, hsame⟩ := X5.leave (v := some (.int (0 : Int32))) (fun h => by rw [Bd.returns] at h; cases h)
      refine ⟨_, _, pre0 _ (go14 _ ?_), hrun, hended, _, _, rfl, ?_, ⟨_, rfl⟩, hW, hsame.mono (by decide) (by decide)⟩
      · skip
        exact retN X5 hx (t := .boolean) Bd.returns (by simp) (hb hby d8_30) hr
      · show Q8_2_0_0 Z a1 p3 bw kw w0 w1 w2 w3 h0 n0 _ T5.heap _
        rw [e5]
        exact ⟨(congrArg (fun z => some (Value.int z)) (show (0 : Int32) = f8_2_0_0 p3 w0 w1 w2 w3 from by unfold f8_2_0_0; rw [if_pos hc22_13])), N0, rfl⟩
    · skip
      have go15 : Go p e below s₁ F0 T5 (mkF m 30 #[vr a1, vi (0 : Int32), vi p3] [(.int (1 : Int32))]) := by
        intro t_ k_
        refine go12 t_ ?_
        refine o_ifNo X5 hx (hb hby d8_22) ((if0 _ _).trans (feq (fun q => hc22_13 ((lw_eq _ _).mp q))).1) ?_
        refine o_iconst X5 hx (hb hby d8_25) (v := 1) rfl ?_
        refine o_goto X5 hx (hb hby d8_26) (pc' := 30) rfl (by decide) ?_
        exact k_
      obtain ⟨fs, hr, hrun, hended, hW, hsame⟩ := X5.leave (v := some (.int (1 : Int32))) (fun h => by rw [Bd.returns] at h; cases h)
      refine ⟨_, _, pre0 _ (go15 _ ?_), hrun, hended, _, _, rfl, ?_, ⟨_, rfl⟩, hW, hsame.mono (by decide) (by decide)⟩
      · skip
        exact retN X5 hx (t := .boolean) Bd.returns (by simp) (hb hby d8_30) hr
      · show Q8_2_0_0 Z a1 p3 bw kw w0 w1 w2 w3 h0 n0 _ T5.heap _
        rw [e5]
        exact ⟨(congrArg (fun z => some (Value.int z)) (show (1 : Int32) = f8_2_0_0 p3 w0 w1 w2 w3 from by unfold f8_2_0_0; rw [if_neg hc22_13])), N0, rfl⟩

theorem pn_8_2_0_1 : plainName "com/example/grammar_game_solver/grammargamesolver/summary/NumberedSets" = true := by first | (simp [plainName, overriddenIn]; done) | decide +kernel
theorem ef_8_2_0_1 (m : MethodId) (x0 : Addr) (x2 : Int32) : entryFrame m #[(.ref x0), (.int (0 : Int32)), (.int x2)] 3 = mkF m 0 #[vr x0, vi (0 : Int32), vi x2] [] := by first | (simp [entryFrame, mkF, argsToLocals, Value.category]; done) | rfl
def f8_2_0_1 (p3 : Int32) (w0 : Int64) (w1 : Int64) (w2 : Int64) (w3 : Int64) : Int32 := (if (w1 &&& ((1 : Int64) <<< (p3 &&& 0x3f).toInt64)) = (0 : Int64) then (0 : Int32) else (1 : Int32))
def Q8_2_0_1 (Z : State) (a1 : Addr) (p3 : Int32) (bw : Addr) (kw : ClassId) (w0 : Int64) (w1 : Int64) (w2 : Int64) (w3 : Int64) (h0 : Heap) (n0 : Nat) (v : Option Value) (h : Heap) (L : List Loc) : Prop := v = some (.int (f8_2_0_1 p3 w0 w1 w2 w3)) ∧ Fr n0 L ∧ h = h0
set_option maxRecDepth 65536 in
set_option maxHeartbeats 40000000 in
theorem rm8_2_0_1 (l : Launch) (Z : State) (a0 : Array Value) (hw : ∀ d ∈ tables_1, d.before a0 Z = true) (ws : List Jvm.Cond) (a1 : Addr) (p3 : Int32) (bw : Addr) (kw : ClassId) (w0 : Int64) (w1 : Int64) (w2 : Int64) (w3 : Int64) (h0 : Heap) (n0 : Nat) (Z0 : n0 ≤ h0.size) (Fwi : Fld Z h0 a1 c_0 "width" "I" (.int (2 : Int32))) (Fwo : Fld Z h0 a1 c_0 "words" "[J" (.ref bw)) (Vw : Arv Z h0 bw kw .long (32 : Int32) ((.long w0) :: (.long w1) :: (.long w2) :: (.long w3) :: own_zl 28) (.long (0 : Int64))) (hk : (p3 / (64 : Int32)) = (1 : Int32)) :
    MetFree l y_6 (head1 (Jvm.Cond.code y_6 prog_63_method_8_code 3 (some .boolean) :: ws) ({ frames := 0, cells := 0, slots := 0, locals := 0 } : Room)) (fun a U => a = #[(.ref a1), (.int (0 : Int32)), (.int p3)] ∧ Z.Warmed39 U.vm ∧ U.heap = h0) (fun _ _ _ _ _ => True) (fun _ U o U' => ∃ v L, o = .returned v ∧ Q8_2_0_1 Z a1 p3 bw kw w0 w1 w2 w3 h0 n0 v U'.heap L ∧ FrameEnd U o U' L ({ frames := 0, cells := 0, slots := 0, locals := 0 } : Room).cells ({ frames := 0, cells := 0, slots := 0, locals := 0 } : Room).slots) := by
  refine MetFree.of_bodySF (plainFor_of_name pn_8_2_0_1) hisR ?_
  intro p e s m args below meth c s₁ Bd hml0 hP hK
  obtain ⟨rfl, hZ, hh⟩ := hP
  have hx := Bd.exec
  have hby := Bd.bytes
  have hml : c.maxLocals = 3 := hml0
  have hown : s.vm.findClass "com/example/grammar_game_solver/grammargamesolver/summary/NumberedSets" = some m.cls := findClass_of_methodNamed Bd.named
  have hnm := (name_of_methodNamed Bd.named Bd.method).1
  have X0 : Stand p l e ({ frames := 0, cells := 0, slots := 0, locals := 0 } : Room) s m #[(.ref a1), (.int (0 : Int32)), (.int p3)] below meth c s₁ [] 0 0 := Stand.of_body Bd
  have e0 : s₁.heap = h0 := by rw [← hh, Bd.state]; rfl
  have N0 := Fr.nil n0
  obtain ⟨F0, hF0⟩ : ∃ F : JFrame, F = entryFrame m #[(.ref a1), (.int (0 : Int32)), (.int p3)] 3 := ⟨_, rfl⟩
  have pre0 : ∀ t, Steps p.tables e below (s₁.setTop F0) t → Steps p.tables e below (s₁.setTop (entryFrame m #[(.ref a1), (.int (0 : Int32)), (.int p3)] 3)) t := fun t k => hF0 ▸ k
  have go0 : Go p e below s₁ F0 s₁ (mkF m 0 #[vr a1, vi (0 : Int32), vi p3] []) := fun t k => castTop (hF0.trans (ef_8_2_0_1 m a1 p3)) k
  have go1 : Go p e below s₁ F0 s₁ (mkF m 1 #[vr a1, vi (0 : Int32), vi p3] [(.ref a1)]) := by
    intro t_ k_
    refine go0 t_ ?_
    refine o_aloadN X0 hx (hb hby d8_0) rfl rfl ?_
    exact k_
  obtain ⟨T2, X2, e2, st2⟩ := getF X0 hx hZ hown (host := "") (Or.inl (own_w hw 13 rfl)) Via.refl e0 Fwo (g := (mkF m 1 #[vr a1, vi (0 : Int32), vi p3] [(.ref a1)])) rfl rfl (hb hby d8_1)
  have go3 : Go p e below s₁ F0 T2 (mkF m 4 #[vr a1, vi (0 : Int32), vi p3] [(.ref bw)]) := fun t_ k_ => go1 t_ (st2 t_ k_)
  have go4 : Go p e below s₁ F0 T2 (mkF m 6 #[vr a1, vi (0 : Int32), vi p3] [(.ref a1), (.int (0 : Int32)), (.ref bw)]) := by
    intro t_ k_
    refine go3 t_ ?_
    refine o_iloadN X2 hx (hb hby d8_4) rfl ?_
    refine o_aloadN X2 hx (hb hby d8_5) rfl rfl ?_
    exact k_
  obtain ⟨T5, X5, e5, st5⟩ := getF X2 hx hZ hown (host := "") (Or.inl (own_w hw 11 rfl)) Via.refl e2 Fwi (g := (mkF m 6 #[vr a1, vi (0 : Int32), vi p3] [(.ref a1), (.int (0 : Int32)), (.ref bw)])) rfl rfl (hb hby d8_6)
  have go6 : Go p e below s₁ F0 T5 (mkF m 9 #[vr a1, vi (0 : Int32), vi p3] [(.int (2 : Int32)), (.int (0 : Int32)), (.ref bw)]) := fun t_ k_ => go4 t_ (st5 t_ k_)
  have go7 : Go p e below s₁ F0 T5 (mkF m 14 #[vr a1, vi (0 : Int32), vi p3] [(.int (p3 / (64 : Int32))), (.int (0 : Int32)), (.ref bw)]) := by
    intro t_ k_
    refine go6 t_ ?_
    refine o_imulE X5 hx (hb hby d8_9) (v := 0) rfl ?_
    refine o_iloadN X5 hx (hb hby d8_10) rfl ?_
    refine o_bipush X5 hx (hb hby d8_11) (v := 64) rfl ?_
    refine o_idiv X5 hx (hb hby d8_13) (by decide) ?_
    exact k_
  have hcs8 : (p3 / (64 : Int32)) = (1 : Int32) := hk
  rcases hcs8 with hcs8
  · skip
    have go9 : Go p e below s₁ F0 T5 (mkF m 14 #[vr a1, vi (0 : Int32), vi p3] [(.int (1 : Int32)), (.int (0 : Int32)), (.ref bw)]) := by rw [hcs8] at go7; exact go7
    have go10 : Go p e below s₁ F0 T5 (mkF m 15 #[vr a1, vi (0 : Int32), vi p3] [(.int (1 : Int32)), (.ref bw)]) := by
      intro t_ k_
      refine go9 t_ ?_
      refine o_iaddE X5 hx (hb hby d8_14) (v := 1) rfl ?_
      exact k_
    obtain ⟨cl11, Ar11, -, Sz11, Nn11, Hs11, -⟩ := id Vw
    have hin11 : ¬ ((1 : Int32) < 0 ∨ cl11.slots.size ≤ ((1 : Int32)).toNatClampNeg) := inb_of Sz11 ⟨by decide, by decide⟩
    have hat11 : cl11.slots[((1 : Int32)).toNatClampNeg]? = some (.long w1) := Hs11.at hin11 rfl
    have go12 : Go p e below s₁ F0 T5 (mkF m 22 #[vr a1, vi (0 : Int32), vi p3] [(.int (lcmpW (w1 &&& ((1 : Int64) <<< (p3 &&& 0x3f).toInt64)) (0 : Int64)))]) := by
      intro t_ k_
      refine go10 t_ ?_
      refine o_laload X5 hx hZ e5 Ar11 hin11 hat11 (hb hby d8_15) ?_
      refine o_lconst X5 hx (hb hby d8_16) (v := 1) rfl ?_
      refine o_iloadN X5 hx (hb hby d8_17) rfl ?_
      refine o_lshl X5 hx (hb hby d8_18) ?_
      refine o_land X5 hx (hb hby d8_19) ?_
      refine o_lconst X5 hx (hb hby d8_20) (v := 0) rfl ?_
      refine o_lcmp X5 hx (hb hby d8_21) ?_
      exact k_
    by_cases hc22_13 : (w1 &&& ((1 : Int64) <<< (p3 &&& 0x3f).toInt64)) = (0 : Int64)
    · skip
      have go14 : Go p e below s₁ F0 T5 (mkF m 30 #[vr a1, vi (0 : Int32), vi p3] [(.int (0 : Int32))]) := by
        intro t_ k_
        refine go12 t_ ?_
        refine o_ifYes X5 hx (hb hby d8_22) (pc' := 29) rfl (by decide) ((if0 _ _).trans (teq ((lw_eq _ _).mpr hc22_13)).1) ?_
        refine o_iconst X5 hx (hb hby d8_29) (v := 0) rfl ?_
        exact k_
      obtain ⟨fs, hr, hrun, hended, hW, hsame⟩ := X5.leave (v := some (.int (0 : Int32))) (fun h => by rw [Bd.returns] at h; cases h)
      refine ⟨_, _, pre0 _ (go14 _ ?_), hrun, hended, _, _, rfl, ?_, ⟨_, rfl⟩, hW, hsame.mono (by decide) (by decide)⟩
      · skip
        exact retN X5 hx (t := .boolean) Bd.returns (by simp) (hb hby d8_30) hr
      · show Q8_2_0_1 Z a1 p3 bw kw w0 w1 w2 w3 h0 n0 _ T5.heap _
        rw [e5]
        exact ⟨(congrArg (fun z => some (Value.int z)) (show (0 : Int32) = f8_2_0_1 p3 w0 w1 w2 w3 from by unfold f8_2_0_1; rw [if_pos hc22_13])), N0, rfl⟩
    · skip
      have go15 : Go p e below s₁ F0 T5 (mkF m 30 #[vr a1, vi (0 : Int32), vi p3] [(.int (1 : Int32))]) := by
        intro t_ k_
        refine go12 t_ ?_
        refine o_ifNo X5 hx (hb hby d8_22) ((if0 _ _).trans (feq (fun q => hc22_13 ((lw_eq _ _).mp q))).1) ?_
        refine o_iconst X5 hx (hb hby d8_25) (v := 1) rfl ?_
        refine o_goto X5 hx (hb hby d8_26) (pc' := 30) rfl (by decide) ?_
        exact k_
      obtain ⟨fs, hr, hrun, hended, hW, hsame⟩ := X5.leave (v := some (.int (1 : Int32))) (fun h => by rw [Bd.returns] at h; cases h)
      refine ⟨_, _, pre0 _ (go15 _ ?_), hrun, hended, _, _, rfl, ?_, ⟨_, rfl⟩, hW, hsame.mono (by decide) (by decide)⟩
      · skip
        exact retN X5 hx (t := .boolean) Bd.returns (by simp) (hb hby d8_30) hr
      · show Q8_2_0_1 Z a1 p3 bw kw w0 w1 w2 w3 h0 n0 _ T5.heap _
        rw [e5]
        exact ⟨(congrArg (fun z => some (Value.int z)) (show (1 : Int32) = f8_2_0_1 p3 w0 w1 w2 w3 from by unfold f8_2_0_1; rw [if_neg hc22_13])), N0, rfl⟩

theorem pn_8_2_1_0 : plainName "com/example/grammar_game_solver/grammargamesolver/summary/NumberedSets" = true := by first | (simp [plainName, overriddenIn]; done) | decide +kernel
theorem ef_8_2_1_0 (m : MethodId) (x0 : Addr) (x2 : Int32) : entryFrame m #[(.ref x0), (.int (1 : Int32)), (.int x2)] 3 = mkF m 0 #[vr x0, vi (1 : Int32), vi x2] [] := by first | (simp [entryFrame, mkF, argsToLocals, Value.category]; done) | rfl
def f8_2_1_0 (p3 : Int32) (w0 : Int64) (w1 : Int64) (w2 : Int64) (w3 : Int64) : Int32 := (if (w2 &&& ((1 : Int64) <<< (p3 &&& 0x3f).toInt64)) = (0 : Int64) then (0 : Int32) else (1 : Int32))
def Q8_2_1_0 (Z : State) (a1 : Addr) (p3 : Int32) (bw : Addr) (kw : ClassId) (w0 : Int64) (w1 : Int64) (w2 : Int64) (w3 : Int64) (h0 : Heap) (n0 : Nat) (v : Option Value) (h : Heap) (L : List Loc) : Prop := v = some (.int (f8_2_1_0 p3 w0 w1 w2 w3)) ∧ Fr n0 L ∧ h = h0
set_option maxRecDepth 65536 in
set_option maxHeartbeats 40000000 in
theorem rm8_2_1_0 (l : Launch) (Z : State) (a0 : Array Value) (hw : ∀ d ∈ tables_1, d.before a0 Z = true) (ws : List Jvm.Cond) (a1 : Addr) (p3 : Int32) (bw : Addr) (kw : ClassId) (w0 : Int64) (w1 : Int64) (w2 : Int64) (w3 : Int64) (h0 : Heap) (n0 : Nat) (Z0 : n0 ≤ h0.size) (Fwi : Fld Z h0 a1 c_0 "width" "I" (.int (2 : Int32))) (Fwo : Fld Z h0 a1 c_0 "words" "[J" (.ref bw)) (Vw : Arv Z h0 bw kw .long (32 : Int32) ((.long w0) :: (.long w1) :: (.long w2) :: (.long w3) :: own_zl 28) (.long (0 : Int64))) (hk : (p3 / (64 : Int32)) = (0 : Int32)) :
    MetFree l y_6 (head1 (Jvm.Cond.code y_6 prog_63_method_8_code 3 (some .boolean) :: ws) ({ frames := 0, cells := 0, slots := 0, locals := 0 } : Room)) (fun a U => a = #[(.ref a1), (.int (1 : Int32)), (.int p3)] ∧ Z.Warmed39 U.vm ∧ U.heap = h0) (fun _ _ _ _ _ => True) (fun _ U o U' => ∃ v L, o = .returned v ∧ Q8_2_1_0 Z a1 p3 bw kw w0 w1 w2 w3 h0 n0 v U'.heap L ∧ FrameEnd U o U' L ({ frames := 0, cells := 0, slots := 0, locals := 0 } : Room).cells ({ frames := 0, cells := 0, slots := 0, locals := 0 } : Room).slots) := by
  refine MetFree.of_bodySF (plainFor_of_name pn_8_2_1_0) hisR ?_
  intro p e s m args below meth c s₁ Bd hml0 hP hK
  obtain ⟨rfl, hZ, hh⟩ := hP
  have hx := Bd.exec
  have hby := Bd.bytes
  have hml : c.maxLocals = 3 := hml0
  have hown : s.vm.findClass "com/example/grammar_game_solver/grammargamesolver/summary/NumberedSets" = some m.cls := findClass_of_methodNamed Bd.named
  have hnm := (name_of_methodNamed Bd.named Bd.method).1
  have X0 : Stand p l e ({ frames := 0, cells := 0, slots := 0, locals := 0 } : Room) s m #[(.ref a1), (.int (1 : Int32)), (.int p3)] below meth c s₁ [] 0 0 := Stand.of_body Bd
  have e0 : s₁.heap = h0 := by rw [← hh, Bd.state]; rfl
  have N0 := Fr.nil n0
  obtain ⟨F0, hF0⟩ : ∃ F : JFrame, F = entryFrame m #[(.ref a1), (.int (1 : Int32)), (.int p3)] 3 := ⟨_, rfl⟩
  have pre0 : ∀ t, Steps p.tables e below (s₁.setTop F0) t → Steps p.tables e below (s₁.setTop (entryFrame m #[(.ref a1), (.int (1 : Int32)), (.int p3)] 3)) t := fun t k => hF0 ▸ k
  have go0 : Go p e below s₁ F0 s₁ (mkF m 0 #[vr a1, vi (1 : Int32), vi p3] []) := fun t k => castTop (hF0.trans (ef_8_2_1_0 m a1 p3)) k
  have go1 : Go p e below s₁ F0 s₁ (mkF m 1 #[vr a1, vi (1 : Int32), vi p3] [(.ref a1)]) := by
    intro t_ k_
    refine go0 t_ ?_
    refine o_aloadN X0 hx (hb hby d8_0) rfl rfl ?_
    exact k_
  obtain ⟨T2, X2, e2, st2⟩ := getF X0 hx hZ hown (host := "") (Or.inl (own_w hw 13 rfl)) Via.refl e0 Fwo (g := (mkF m 1 #[vr a1, vi (1 : Int32), vi p3] [(.ref a1)])) rfl rfl (hb hby d8_1)
  have go3 : Go p e below s₁ F0 T2 (mkF m 4 #[vr a1, vi (1 : Int32), vi p3] [(.ref bw)]) := fun t_ k_ => go1 t_ (st2 t_ k_)
  have go4 : Go p e below s₁ F0 T2 (mkF m 6 #[vr a1, vi (1 : Int32), vi p3] [(.ref a1), (.int (1 : Int32)), (.ref bw)]) := by
    intro t_ k_
    refine go3 t_ ?_
    refine o_iloadN X2 hx (hb hby d8_4) rfl ?_
    refine o_aloadN X2 hx (hb hby d8_5) rfl rfl ?_
    exact k_
  obtain ⟨T5, X5, e5, st5⟩ := getF X2 hx hZ hown (host := "") (Or.inl (own_w hw 11 rfl)) Via.refl e2 Fwi (g := (mkF m 6 #[vr a1, vi (1 : Int32), vi p3] [(.ref a1), (.int (1 : Int32)), (.ref bw)])) rfl rfl (hb hby d8_6)
  have go6 : Go p e below s₁ F0 T5 (mkF m 9 #[vr a1, vi (1 : Int32), vi p3] [(.int (2 : Int32)), (.int (1 : Int32)), (.ref bw)]) := fun t_ k_ => go4 t_ (st5 t_ k_)
  have go7 : Go p e below s₁ F0 T5 (mkF m 14 #[vr a1, vi (1 : Int32), vi p3] [(.int (p3 / (64 : Int32))), (.int (2 : Int32)), (.ref bw)]) := by
    intro t_ k_
    refine go6 t_ ?_
    refine o_imulE X5 hx (hb hby d8_9) (v := 2) rfl ?_
    refine o_iloadN X5 hx (hb hby d8_10) rfl ?_
    refine o_bipush X5 hx (hb hby d8_11) (v := 64) rfl ?_
    refine o_idiv X5 hx (hb hby d8_13) (by decide) ?_
    exact k_
  have hcs8 : (p3 / (64 : Int32)) = (0 : Int32) := hk
  rcases hcs8 with hcs8
  · skip
    have go9 : Go p e below s₁ F0 T5 (mkF m 14 #[vr a1, vi (1 : Int32), vi p3] [(.int (0 : Int32)), (.int (2 : Int32)), (.ref bw)]) := by rw [hcs8] at go7; exact go7
    have go10 : Go p e below s₁ F0 T5 (mkF m 15 #[vr a1, vi (1 : Int32), vi p3] [(.int (2 : Int32)), (.ref bw)]) := by
      intro t_ k_
      refine go9 t_ ?_
      refine o_iaddE X5 hx (hb hby d8_14) (v := 2) rfl ?_
      exact k_
    obtain ⟨cl11, Ar11, -, Sz11, Nn11, Hs11, -⟩ := id Vw
    have hin11 : ¬ ((2 : Int32) < 0 ∨ cl11.slots.size ≤ ((2 : Int32)).toNatClampNeg) := inb_of Sz11 ⟨by decide, by decide⟩
    have hat11 : cl11.slots[((2 : Int32)).toNatClampNeg]? = some (.long w2) := Hs11.at hin11 rfl
    have go12 : Go p e below s₁ F0 T5 (mkF m 22 #[vr a1, vi (1 : Int32), vi p3] [(.int (lcmpW (w2 &&& ((1 : Int64) <<< (p3 &&& 0x3f).toInt64)) (0 : Int64)))]) := by
      intro t_ k_
      refine go10 t_ ?_
      refine o_laload X5 hx hZ e5 Ar11 hin11 hat11 (hb hby d8_15) ?_
      refine o_lconst X5 hx (hb hby d8_16) (v := 1) rfl ?_
      refine o_iloadN X5 hx (hb hby d8_17) rfl ?_
      refine o_lshl X5 hx (hb hby d8_18) ?_
      refine o_land X5 hx (hb hby d8_19) ?_
      refine o_lconst X5 hx (hb hby d8_20) (v := 0) rfl ?_
      refine o_lcmp X5 hx (hb hby d8_21) ?_
      exact k_
    by_cases hc22_13 : (w2 &&& ((1 : Int64) <<< (p3 &&& 0x3f).toInt64)) = (0 : Int64)
    · skip
      have go14 : Go p e below s₁ F0 T5 (mkF m 30 #[vr a1, vi (1 : Int32), vi p3] [(.int (0 : Int32))]) := by
        intro t_ k_
        refine go12 t_ ?_
        refine o_ifYes X5 hx (hb hby d8_22) (pc' := 29) rfl (by decide) ((if0 _ _).trans (teq ((lw_eq _ _).mpr hc22_13)).1) ?_
        refine o_iconst X5 hx (hb hby d8_29) (v := 0) rfl ?_
        exact k_
      obtain ⟨fs, hr, hrun, hended, hW, hsame⟩ := X5.leave (v := some (.int (0 : Int32))) (fun h => by rw [Bd.returns] at h; cases h)
      refine ⟨_, _, pre0 _ (go14 _ ?_), hrun, hended, _, _, rfl, ?_, ⟨_, rfl⟩, hW, hsame.mono (by decide) (by decide)⟩
      · skip
        exact retN X5 hx (t := .boolean) Bd.returns (by simp) (hb hby d8_30) hr
      · show Q8_2_1_0 Z a1 p3 bw kw w0 w1 w2 w3 h0 n0 _ T5.heap _
        rw [e5]
        exact ⟨(congrArg (fun z => some (Value.int z)) (show (0 : Int32) = f8_2_1_0 p3 w0 w1 w2 w3 from by unfold f8_2_1_0; rw [if_pos hc22_13])), N0, rfl⟩
    · skip
      have go15 : Go p e below s₁ F0 T5 (mkF m 30 #[vr a1, vi (1 : Int32), vi p3] [(.int (1 : Int32))]) := by
        intro t_ k_
        refine go12 t_ ?_
        refine o_ifNo X5 hx (hb hby d8_22) ((if0 _ _).trans (feq (fun q => hc22_13 ((lw_eq _ _).mp q))).1) ?_
        refine o_iconst X5 hx (hb hby d8_25) (v := 1) rfl ?_
        refine o_goto X5 hx (hb hby d8_26) (pc' := 30) rfl (by decide) ?_
        exact k_
      obtain ⟨fs, hr, hrun, hended, hW, hsame⟩ := X5.leave (v := some (.int (1 : Int32))) (fun h => by rw [Bd.returns] at h; cases h)
      refine ⟨_, _, pre0 _ (go15 _ ?_), hrun, hended, _, _, rfl, ?_, ⟨_, rfl⟩, hW, hsame.mono (by decide) (by decide)⟩
      · skip
        exact retN X5 hx (t := .boolean) Bd.returns (by simp) (hb hby d8_30) hr
      · show Q8_2_1_0 Z a1 p3 bw kw w0 w1 w2 w3 h0 n0 _ T5.heap _
        rw [e5]
        exact ⟨(congrArg (fun z => some (Value.int z)) (show (1 : Int32) = f8_2_1_0 p3 w0 w1 w2 w3 from by unfold f8_2_1_0; rw [if_neg hc22_13])), N0, rfl⟩

theorem pn_8_2_1_1 : plainName "com/example/grammar_game_solver/grammargamesolver/summary/NumberedSets" = true := by first | (simp [plainName, overriddenIn]; done) | decide +kernel
theorem ef_8_2_1_1 (m : MethodId) (x0 : Addr) (x2 : Int32) : entryFrame m #[(.ref x0), (.int (1 : Int32)), (.int x2)] 3 = mkF m 0 #[vr x0, vi (1 : Int32), vi x2] [] := by first | (simp [entryFrame, mkF, argsToLocals, Value.category]; done) | rfl
def f8_2_1_1 (p3 : Int32) (w0 : Int64) (w1 : Int64) (w2 : Int64) (w3 : Int64) : Int32 := (if (w3 &&& ((1 : Int64) <<< (p3 &&& 0x3f).toInt64)) = (0 : Int64) then (0 : Int32) else (1 : Int32))
def Q8_2_1_1 (Z : State) (a1 : Addr) (p3 : Int32) (bw : Addr) (kw : ClassId) (w0 : Int64) (w1 : Int64) (w2 : Int64) (w3 : Int64) (h0 : Heap) (n0 : Nat) (v : Option Value) (h : Heap) (L : List Loc) : Prop := v = some (.int (f8_2_1_1 p3 w0 w1 w2 w3)) ∧ Fr n0 L ∧ h = h0
set_option maxRecDepth 65536 in
set_option maxHeartbeats 40000000 in
theorem rm8_2_1_1 (l : Launch) (Z : State) (a0 : Array Value) (hw : ∀ d ∈ tables_1, d.before a0 Z = true) (ws : List Jvm.Cond) (a1 : Addr) (p3 : Int32) (bw : Addr) (kw : ClassId) (w0 : Int64) (w1 : Int64) (w2 : Int64) (w3 : Int64) (h0 : Heap) (n0 : Nat) (Z0 : n0 ≤ h0.size) (Fwi : Fld Z h0 a1 c_0 "width" "I" (.int (2 : Int32))) (Fwo : Fld Z h0 a1 c_0 "words" "[J" (.ref bw)) (Vw : Arv Z h0 bw kw .long (32 : Int32) ((.long w0) :: (.long w1) :: (.long w2) :: (.long w3) :: own_zl 28) (.long (0 : Int64))) (hk : (p3 / (64 : Int32)) = (1 : Int32)) :
    MetFree l y_6 (head1 (Jvm.Cond.code y_6 prog_63_method_8_code 3 (some .boolean) :: ws) ({ frames := 0, cells := 0, slots := 0, locals := 0 } : Room)) (fun a U => a = #[(.ref a1), (.int (1 : Int32)), (.int p3)] ∧ Z.Warmed39 U.vm ∧ U.heap = h0) (fun _ _ _ _ _ => True) (fun _ U o U' => ∃ v L, o = .returned v ∧ Q8_2_1_1 Z a1 p3 bw kw w0 w1 w2 w3 h0 n0 v U'.heap L ∧ FrameEnd U o U' L ({ frames := 0, cells := 0, slots := 0, locals := 0 } : Room).cells ({ frames := 0, cells := 0, slots := 0, locals := 0 } : Room).slots) := by
  refine MetFree.of_bodySF (plainFor_of_name pn_8_2_1_1) hisR ?_
  intro p e s m args below meth c s₁ Bd hml0 hP hK
  obtain ⟨rfl, hZ, hh⟩ := hP
  have hx := Bd.exec
  have hby := Bd.bytes
  have hml : c.maxLocals = 3 := hml0
  have hown : s.vm.findClass "com/example/grammar_game_solver/grammargamesolver/summary/NumberedSets" = some m.cls := findClass_of_methodNamed Bd.named
  have hnm := (name_of_methodNamed Bd.named Bd.method).1
  have X0 : Stand p l e ({ frames := 0, cells := 0, slots := 0, locals := 0 } : Room) s m #[(.ref a1), (.int (1 : Int32)), (.int p3)] below meth c s₁ [] 0 0 := Stand.of_body Bd
  have e0 : s₁.heap = h0 := by rw [← hh, Bd.state]; rfl
  have N0 := Fr.nil n0
  obtain ⟨F0, hF0⟩ : ∃ F : JFrame, F = entryFrame m #[(.ref a1), (.int (1 : Int32)), (.int p3)] 3 := ⟨_, rfl⟩
  have pre0 : ∀ t, Steps p.tables e below (s₁.setTop F0) t → Steps p.tables e below (s₁.setTop (entryFrame m #[(.ref a1), (.int (1 : Int32)), (.int p3)] 3)) t := fun t k => hF0 ▸ k
  have go0 : Go p e below s₁ F0 s₁ (mkF m 0 #[vr a1, vi (1 : Int32), vi p3] []) := fun t k => castTop (hF0.trans (ef_8_2_1_1 m a1 p3)) k
  have go1 : Go p e below s₁ F0 s₁ (mkF m 1 #[vr a1, vi (1 : Int32), vi p3] [(.ref a1)]) := by
    intro t_ k_
    refine go0 t_ ?_
    refine o_aloadN X0 hx (hb hby d8_0) rfl rfl ?_
    exact k_
  obtain ⟨T2, X2, e2, st2⟩ := getF X0 hx hZ hown (host := "") (Or.inl (own_w hw 13 rfl)) Via.refl e0 Fwo (g := (mkF m 1 #[vr a1, vi (1 : Int32), vi p3] [(.ref a1)])) rfl rfl (hb hby d8_1)
  have go3 : Go p e below s₁ F0 T2 (mkF m 4 #[vr a1, vi (1 : Int32), vi p3] [(.ref bw)]) := fun t_ k_ => go1 t_ (st2 t_ k_)
  have go4 : Go p e below s₁ F0 T2 (mkF m 6 #[vr a1, vi (1 : Int32), vi p3] [(.ref a1), (.int (1 : Int32)), (.ref bw)]) := by
    intro t_ k_
    refine go3 t_ ?_
    refine o_iloadN X2 hx (hb hby d8_4) rfl ?_
    refine o_aloadN X2 hx (hb hby d8_5) rfl rfl ?_
    exact k_
  obtain ⟨T5, X5, e5, st5⟩ := getF X2 hx hZ hown (host := "") (Or.inl (own_w hw 11 rfl)) Via.refl e2 Fwi (g := (mkF m 6 #[vr a1, vi (1 : Int32), vi p3] [(.ref a1), (.int (1 : Int32)), (.ref bw)])) rfl rfl (hb hby d8_6)
  have go6 : Go p e below s₁ F0 T5 (mkF m 9 #[vr a1, vi (1 : Int32), vi p3] [(.int (2 : Int32)), (.int (1 : Int32)), (.ref bw)]) := fun t_ k_ => go4 t_ (st5 t_ k_)
  have go7 : Go p e below s₁ F0 T5 (mkF m 14 #[vr a1, vi (1 : Int32), vi p3] [(.int (p3 / (64 : Int32))), (.int (2 : Int32)), (.ref bw)]) := by
    intro t_ k_
    refine go6 t_ ?_
    refine o_imulE X5 hx (hb hby d8_9) (v := 2) rfl ?_
    refine o_iloadN X5 hx (hb hby d8_10) rfl ?_
    refine o_bipush X5 hx (hb hby d8_11) (v := 64) rfl ?_
    refine o_idiv X5 hx (hb hby d8_13) (by decide) ?_
    exact k_
  have hcs8 : (p3 / (64 : Int32)) = (1 : Int32) := hk
  rcases hcs8 with hcs8
  · skip
    have go9 : Go p e below s₁ F0 T5 (mkF m 14 #[vr a1, vi (1 : Int32), vi p3] [(.int (1 : Int32)), (.int (2 : Int32)), (.ref bw)]) := by rw [hcs8] at go7; exact go7
    have go10 : Go p e below s₁ F0 T5 (mkF m 15 #[vr a1, vi (1 : Int32), vi p3] [(.int (3 : Int32)), (.ref bw)]) := by
      intro t_ k_
      refine go9 t_ ?_
      refine o_iaddE X5 hx (hb hby d8_14) (v := 3) rfl ?_
      exact k_
    obtain ⟨cl11, Ar11, -, Sz11, Nn11, Hs11, -⟩ := id Vw
    have hin11 : ¬ ((3 : Int32) < 0 ∨ cl11.slots.size ≤ ((3 : Int32)).toNatClampNeg) := inb_of Sz11 ⟨by decide, by decide⟩
    have hat11 : cl11.slots[((3 : Int32)).toNatClampNeg]? = some (.long w3) := Hs11.at hin11 rfl
    have go12 : Go p e below s₁ F0 T5 (mkF m 22 #[vr a1, vi (1 : Int32), vi p3] [(.int (lcmpW (w3 &&& ((1 : Int64) <<< (p3 &&& 0x3f).toInt64)) (0 : Int64)))]) := by
      intro t_ k_
      refine go10 t_ ?_
      refine o_laload X5 hx hZ e5 Ar11 hin11 hat11 (hb hby d8_15) ?_
      refine o_lconst X5 hx (hb hby d8_16) (v := 1) rfl ?_
      refine o_iloadN X5 hx (hb hby d8_17) rfl ?_
      refine o_lshl X5 hx (hb hby d8_18) ?_
      refine o_land X5 hx (hb hby d8_19) ?_
      refine o_lconst X5 hx (hb hby d8_20) (v := 0) rfl ?_
      refine o_lcmp X5 hx (hb hby d8_21) ?_
      exact k_
    by_cases hc22_13 : (w3 &&& ((1 : Int64) <<< (p3 &&& 0x3f).toInt64)) = (0 : Int64)
    · skip
      have go14 : Go p e below s₁ F0 T5 (mkF m 30 #[vr a1, vi (1 : Int32), vi p3] [(.int (0 : Int32))]) := by
        intro t_ k_
        refine go12 t_ ?_
        refine o_ifYes X5 hx (hb hby d8_22) (pc' := 29) rfl (by decide) ((if0 _ _).trans (teq ((lw_eq _ _).mpr hc22_13)).1) ?_
        refine o_iconst X5 hx (hb hby d8_29) (v := 0) rfl ?_
        exact k_
      obtain ⟨fs, hr, hrun, hended, hW, hsame⟩ := X5.leave (v := some (.int (0 : Int32))) (fun h => by rw [Bd.returns] at h; cases h)
      refine ⟨_, _, pre0 _ (go14 _ ?_), hrun, hended, _, _, rfl, ?_, ⟨_, rfl⟩, hW, hsame.mono (by decide) (by decide)⟩
      · skip
        exact retN X5 hx (t := .boolean) Bd.returns (by simp) (hb hby d8_30) hr
      · show Q8_2_1_1 Z a1 p3 bw kw w0 w1 w2 w3 h0 n0 _ T5.heap _
        rw [e5]
        exact ⟨(congrArg (fun z => some (Value.int z)) (show (0 : Int32) = f8_2_1_1 p3 w0 w1 w2 w3 from by unfold f8_2_1_1; rw [if_pos hc22_13])), N0, rfl⟩
    · skip
      have go15 : Go p e below s₁ F0 T5 (mkF m 30 #[vr a1, vi (1 : Int32), vi p3] [(.int (1 : Int32))]) := by
        intro t_ k_
        refine go12 t_ ?_
        refine o_ifNo X5 hx (hb hby d8_22) ((if0 _ _).trans (feq (fun q => hc22_13 ((lw_eq _ _).mp q))).1) ?_
        refine o_iconst X5 hx (hb hby d8_25) (v := 1) rfl ?_
        refine o_goto X5 hx (hb hby d8_26) (pc' := 30) rfl (by decide) ?_
        exact k_
      obtain ⟨fs, hr, hrun, hended, hW, hsame⟩ := X5.leave (v := some (.int (1 : Int32))) (fun h => by rw [Bd.returns] at h; cases h)
      refine ⟨_, _, pre0 _ (go15 _ ?_), hrun, hended, _, _, rfl, ?_, ⟨_, rfl⟩, hW, hsame.mono (by decide) (by decide)⟩
      · skip
        exact retN X5 hx (t := .boolean) Bd.returns (by simp) (hb hby d8_30) hr
      · show Q8_2_1_1 Z a1 p3 bw kw w0 w1 w2 w3 h0 n0 _ T5.heap _
        rw [e5]
        exact ⟨(congrArg (fun z => some (Value.int z)) (show (1 : Int32) = f8_2_1_1 p3 w0 w1 w2 w3 from by unfold f8_2_1_1; rw [if_neg hc22_13])), N0, rfl⟩

theorem d9_0 : decode method_3_code 0 = .ok (.iload_n 1, 1) := by decide +kernel
theorem d9_1 : decode method_3_code 1 = .ok (.bipush 64, 2) := by decide +kernel
theorem d9_3 : decode method_3_code 3 = .ok (.if_icmp .ge 9, 3) := by decide +kernel
theorem d9_6 : decode method_3_code 6 = .ok (.aload_n 0, 1) := by decide +kernel
theorem d9_7 : decode method_3_code 7 = .ok (.iconst 0, 1) := by decide +kernel
theorem d9_8 : decode method_3_code 8 = .ok (.laload, 1) := by decide +kernel
theorem d9_9 : decode method_3_code 9 = .ok (.goto 6, 3) := by decide +kernel
theorem d9_15 : decode method_3_code 15 = .ok (.lstore_n 2, 1) := by decide +kernel
theorem d9_16 : decode method_3_code 16 = .ok (.lload_n 2, 1) := by decide +kernel
theorem d9_17 : decode method_3_code 17 = .ok (.iload_n 1, 1) := by decide +kernel
theorem d9_18 : decode method_3_code 18 = .ok (.bipush 63, 2) := by decide +kernel
theorem d9_20 : decode method_3_code 20 = .ok (.iand, 1) := by decide +kernel
theorem d9_21 : decode method_3_code 21 = .ok (.lushr, 1) := by decide +kernel
theorem d9_22 : decode method_3_code 22 = .ok (.lconst 1, 1) := by decide +kernel
theorem d9_23 : decode method_3_code 23 = .ok (.land, 1) := by decide +kernel
theorem d9_24 : decode method_3_code 24 = .ok (.lconst 0, 1) := by decide +kernel
theorem d9_25 : decode method_3_code 25 = .ok (.lcmp, 1) := by decide +kernel
theorem d9_26 : decode method_3_code 26 = .ok (.ifCond .eq 7, 3) := by decide +kernel
theorem d9_29 : decode method_3_code 29 = .ok (.iconst 1, 1) := by decide +kernel
theorem d9_30 : decode method_3_code 30 = .ok (.goto 4, 3) := by decide +kernel
theorem d9_33 : decode method_3_code 33 = .ok (.iconst 0, 1) := by decide +kernel
theorem d9_34 : decode method_3_code 34 = .ok (.ireturn, 1) := by decide +kernel
theorem pn_9_0 : plainName "com/example/grammar_game_solver/grammargamesolver/summary/NumberedSetsContainsPinLaw" = true := by first | (simp [plainName, overriddenIn]; done) | decide +kernel
theorem ef_9_0 (m : MethodId) (x0 : Addr) (x1 : Int32) : entryFrame m #[(.ref x0), (.int x1)] 4 = mkF m 0 #[vr x0, vi x1, .unset, .unset] [] := by first | (simp [entryFrame, mkF, argsToLocals, Value.category]; done) | rfl
def f9_0 (p2 : Int32) (x0 : Int64) (x1 : Int64) : Int32 := (if (((x0.toUInt64 >>> ((p2 &&& (63 : Int32)) &&& 0x3f).toInt64.toUInt64).toInt64) &&& (1 : Int64)) = (0 : Int64) then (0 : Int32) else (1 : Int32))
def Q9_0 (Z : State) (a1 : Addr) (p2 : Int32) (k1 : ClassId) (x0 : Int64) (x1 : Int64) (h0 : Heap) (n0 : Nat) (v : Option Value) (h : Heap) (L : List Loc) : Prop := v = some (.int (f9_0 p2 x0 x1)) ∧ Fr n0 L ∧ h = h0
set_option maxRecDepth 65536 in
set_option maxHeartbeats 40000000 in
theorem rm9_0 (l : Launch) (Z : State) (a0 : Array Value) (hw : ∀ d ∈ tables_1, d.before a0 Z = true) (ws : List Jvm.Cond) (a1 : Addr) (p2 : Int32) (k1 : ClassId) (x0 : Int64) (x1 : Int64) (h0 : Heap) (n0 : Nat) (Z0 : n0 ≤ h0.size) (V1 : Arv Z h0 a1 k1 .long (2 : Int32) [(.long x0), (.long x1)] (.long (0 : Int64))) (hk : p2 < (64 : Int32)) :
    MetFree l y_7 (head1 (Jvm.Cond.code y_7 method_3_code 4 (some .boolean) :: ws) ({ frames := 0, cells := 0, slots := 0, locals := 0 } : Room)) (fun a U => a = #[(.ref a1), (.int p2)] ∧ Z.Warmed39 U.vm ∧ U.heap = h0) (fun _ _ _ _ _ => True) (fun _ U o U' => ∃ v L, o = .returned v ∧ Q9_0 Z a1 p2 k1 x0 x1 h0 n0 v U'.heap L ∧ FrameEnd U o U' L ({ frames := 0, cells := 0, slots := 0, locals := 0 } : Room).cells ({ frames := 0, cells := 0, slots := 0, locals := 0 } : Room).slots) := by
  refine MetFree.of_bodySF (plainFor_of_name pn_9_0) hisR ?_
  intro p e s m args below meth c s₁ Bd hml0 hP hK
  obtain ⟨rfl, hZ, hh⟩ := hP
  have hx := Bd.exec
  have hby := Bd.bytes
  have hml : c.maxLocals = 4 := hml0
  have hown : s.vm.findClass "com/example/grammar_game_solver/grammargamesolver/summary/NumberedSetsContainsPinLaw" = some m.cls := findClass_of_methodNamed Bd.named
  have hnm := (name_of_methodNamed Bd.named Bd.method).1
  have X0 : Stand p l e ({ frames := 0, cells := 0, slots := 0, locals := 0 } : Room) s m #[(.ref a1), (.int p2)] below meth c s₁ [] 0 0 := Stand.of_body Bd
  have e0 : s₁.heap = h0 := by rw [← hh, Bd.state]; rfl
  have N0 := Fr.nil n0
  obtain ⟨F0, hF0⟩ : ∃ F : JFrame, F = entryFrame m #[(.ref a1), (.int p2)] 4 := ⟨_, rfl⟩
  have pre0 : ∀ t, Steps p.tables e below (s₁.setTop F0) t → Steps p.tables e below (s₁.setTop (entryFrame m #[(.ref a1), (.int p2)] 4)) t := fun t k => hF0 ▸ k
  have go0 : Go p e below s₁ F0 s₁ (mkF m 0 #[vr a1, vi p2, .unset, .unset] []) := fun t k => castTop (hF0.trans (ef_9_0 m a1 p2)) k
  have go1 : Go p e below s₁ F0 s₁ (mkF m 8 #[vr a1, vi p2, .unset, .unset] [(.int (0 : Int32)), (.ref a1)]) := by
    intro t_ k_
    refine go0 t_ ?_
    refine o_iloadN X0 hx (hb hby d9_0) rfl ?_
    refine o_bipush X0 hx (hb hby d9_1) (v := 64) rfl ?_
    refine o_icmpNo X0 hx (hb hby d9_3) (tlt hk).2.1 ?_
    refine o_aloadN X0 hx (hb hby d9_6) rfl rfl ?_
    refine o_iconst X0 hx (hb hby d9_7) (v := 0) rfl ?_
    exact k_
  obtain ⟨cl2, Ar2, -, Sz2, Nn2, Hs2, -⟩ := id V1
  have hin2 : ¬ ((0 : Int32) < 0 ∨ cl2.slots.size ≤ ((0 : Int32)).toNatClampNeg) := inb_of Sz2 ⟨by decide, by decide⟩
  have hat2 : cl2.slots[((0 : Int32)).toNatClampNeg]? = some (.long x0) := Hs2.at hin2 rfl
  have go3 : Go p e below s₁ F0 s₁ (mkF m 26 #[vr a1, vi p2, vj x0, .second] [(.int (lcmpW (((x0.toUInt64 >>> ((p2 &&& (63 : Int32)) &&& 0x3f).toInt64.toUInt64).toInt64) &&& (1 : Int64)) (0 : Int64)))]) := by
    intro t_ k_
    refine go1 t_ ?_
    refine o_laload X0 hx hZ e0 Ar2 hin2 hat2 (hb hby d9_8) ?_
    refine o_goto X0 hx (hb hby d9_9) (pc' := 15) rfl (by decide) ?_
    refine o_lstoreN X0 hx (hb hby d9_15) (L' := #[vr a1, vi p2, vj x0, .second]) rfl ?_
    refine o_lloadN X0 hx (hb hby d9_16) rfl ?_
    refine o_iloadN X0 hx (hb hby d9_17) rfl ?_
    refine o_bipush X0 hx (hb hby d9_18) (v := 63) rfl ?_
    refine o_iand X0 hx (hb hby d9_20) ?_
    refine o_lushr X0 hx (hb hby d9_21) ?_
    refine o_lconst X0 hx (hb hby d9_22) (v := 1) rfl ?_
    refine o_land X0 hx (hb hby d9_23) ?_
    refine o_lconst X0 hx (hb hby d9_24) (v := 0) rfl ?_
    refine o_lcmp X0 hx (hb hby d9_25) ?_
    exact k_
  by_cases hc26_4 : (((x0.toUInt64 >>> ((p2 &&& (63 : Int32)) &&& 0x3f).toInt64.toUInt64).toInt64) &&& (1 : Int64)) = (0 : Int64)
  · skip
    have go5 : Go p e below s₁ F0 s₁ (mkF m 34 #[vr a1, vi p2, vj x0, .second] [(.int (0 : Int32))]) := by
      intro t_ k_
      refine go3 t_ ?_
      refine o_ifYes X0 hx (hb hby d9_26) (pc' := 33) rfl (by decide) ((if0 _ _).trans (teq ((lw_eq _ _).mpr hc26_4)).1) ?_
      refine o_iconst X0 hx (hb hby d9_33) (v := 0) rfl ?_
      exact k_
    obtain ⟨fs, hr, hrun, hended, hW, hsame⟩ := X0.leave (v := some (.int (0 : Int32))) (fun h => by rw [Bd.returns] at h; cases h)
    refine ⟨_, _, pre0 _ (go5 _ ?_), hrun, hended, _, _, rfl, ?_, ⟨_, rfl⟩, hW, hsame.mono (by decide) (by decide)⟩
    · skip
      exact retN X0 hx (t := .boolean) Bd.returns (by simp) (hb hby d9_34) hr
    · show Q9_0 Z a1 p2 k1 x0 x1 h0 n0 _ s₁.heap _
      rw [e0]
      exact ⟨(congrArg (fun z => some (Value.int z)) (show (0 : Int32) = f9_0 p2 x0 x1 from by unfold f9_0; rw [if_pos hc26_4])), N0, rfl⟩
  · skip
    have go6 : Go p e below s₁ F0 s₁ (mkF m 34 #[vr a1, vi p2, vj x0, .second] [(.int (1 : Int32))]) := by
      intro t_ k_
      refine go3 t_ ?_
      refine o_ifNo X0 hx (hb hby d9_26) ((if0 _ _).trans (feq (fun q => hc26_4 ((lw_eq _ _).mp q))).1) ?_
      refine o_iconst X0 hx (hb hby d9_29) (v := 1) rfl ?_
      refine o_goto X0 hx (hb hby d9_30) (pc' := 34) rfl (by decide) ?_
      exact k_
    obtain ⟨fs, hr, hrun, hended, hW, hsame⟩ := X0.leave (v := some (.int (1 : Int32))) (fun h => by rw [Bd.returns] at h; cases h)
    refine ⟨_, _, pre0 _ (go6 _ ?_), hrun, hended, _, _, rfl, ?_, ⟨_, rfl⟩, hW, hsame.mono (by decide) (by decide)⟩
    · skip
      exact retN X0 hx (t := .boolean) Bd.returns (by simp) (hb hby d9_34) hr
    · show Q9_0 Z a1 p2 k1 x0 x1 h0 n0 _ s₁.heap _
      rw [e0]
      exact ⟨(congrArg (fun z => some (Value.int z)) (show (1 : Int32) = f9_0 p2 x0 x1 from by unfold f9_0; rw [if_neg hc26_4])), N0, rfl⟩

theorem d9_12 : decode method_3_code 12 = .ok (.aload_n 0, 1) := by decide +kernel
theorem d9_13 : decode method_3_code 13 = .ok (.iconst 1, 1) := by decide +kernel
theorem d9_14 : decode method_3_code 14 = .ok (.laload, 1) := by decide +kernel
theorem pn_9_1 : plainName "com/example/grammar_game_solver/grammargamesolver/summary/NumberedSetsContainsPinLaw" = true := by first | (simp [plainName, overriddenIn]; done) | decide +kernel
theorem ef_9_1 (m : MethodId) (x0 : Addr) (x1 : Int32) : entryFrame m #[(.ref x0), (.int x1)] 4 = mkF m 0 #[vr x0, vi x1, .unset, .unset] [] := by first | (simp [entryFrame, mkF, argsToLocals, Value.category]; done) | rfl
def f9_1 (p2 : Int32) (x0 : Int64) (x1 : Int64) : Int32 := (if (((x1.toUInt64 >>> ((p2 &&& (63 : Int32)) &&& 0x3f).toInt64.toUInt64).toInt64) &&& (1 : Int64)) = (0 : Int64) then (0 : Int32) else (1 : Int32))
def Q9_1 (Z : State) (a1 : Addr) (p2 : Int32) (k1 : ClassId) (x0 : Int64) (x1 : Int64) (h0 : Heap) (n0 : Nat) (v : Option Value) (h : Heap) (L : List Loc) : Prop := v = some (.int (f9_1 p2 x0 x1)) ∧ Fr n0 L ∧ h = h0
set_option maxRecDepth 65536 in
set_option maxHeartbeats 40000000 in
theorem rm9_1 (l : Launch) (Z : State) (a0 : Array Value) (hw : ∀ d ∈ tables_1, d.before a0 Z = true) (ws : List Jvm.Cond) (a1 : Addr) (p2 : Int32) (k1 : ClassId) (x0 : Int64) (x1 : Int64) (h0 : Heap) (n0 : Nat) (Z0 : n0 ≤ h0.size) (V1 : Arv Z h0 a1 k1 .long (2 : Int32) [(.long x0), (.long x1)] (.long (0 : Int64))) (hk : ¬ p2 < (64 : Int32)) :
    MetFree l y_7 (head1 (Jvm.Cond.code y_7 method_3_code 4 (some .boolean) :: ws) ({ frames := 0, cells := 0, slots := 0, locals := 0 } : Room)) (fun a U => a = #[(.ref a1), (.int p2)] ∧ Z.Warmed39 U.vm ∧ U.heap = h0) (fun _ _ _ _ _ => True) (fun _ U o U' => ∃ v L, o = .returned v ∧ Q9_1 Z a1 p2 k1 x0 x1 h0 n0 v U'.heap L ∧ FrameEnd U o U' L ({ frames := 0, cells := 0, slots := 0, locals := 0 } : Room).cells ({ frames := 0, cells := 0, slots := 0, locals := 0 } : Room).slots) := by
  refine MetFree.of_bodySF (plainFor_of_name pn_9_1) hisR ?_
  intro p e s m args below meth c s₁ Bd hml0 hP hK
  obtain ⟨rfl, hZ, hh⟩ := hP
  have hx := Bd.exec
  have hby := Bd.bytes
  have hml : c.maxLocals = 4 := hml0
  have hown : s.vm.findClass "com/example/grammar_game_solver/grammargamesolver/summary/NumberedSetsContainsPinLaw" = some m.cls := findClass_of_methodNamed Bd.named
  have hnm := (name_of_methodNamed Bd.named Bd.method).1
  have X0 : Stand p l e ({ frames := 0, cells := 0, slots := 0, locals := 0 } : Room) s m #[(.ref a1), (.int p2)] below meth c s₁ [] 0 0 := Stand.of_body Bd
  have e0 : s₁.heap = h0 := by rw [← hh, Bd.state]; rfl
  have N0 := Fr.nil n0
  obtain ⟨F0, hF0⟩ : ∃ F : JFrame, F = entryFrame m #[(.ref a1), (.int p2)] 4 := ⟨_, rfl⟩
  have pre0 : ∀ t, Steps p.tables e below (s₁.setTop F0) t → Steps p.tables e below (s₁.setTop (entryFrame m #[(.ref a1), (.int p2)] 4)) t := fun t k => hF0 ▸ k
  have go0 : Go p e below s₁ F0 s₁ (mkF m 0 #[vr a1, vi p2, .unset, .unset] []) := fun t k => castTop (hF0.trans (ef_9_1 m a1 p2)) k
  have go1 : Go p e below s₁ F0 s₁ (mkF m 14 #[vr a1, vi p2, .unset, .unset] [(.int (1 : Int32)), (.ref a1)]) := by
    intro t_ k_
    refine go0 t_ ?_
    refine o_iloadN X0 hx (hb hby d9_0) rfl ?_
    refine o_bipush X0 hx (hb hby d9_1) (v := 64) rfl ?_
    refine o_icmpYes X0 hx (hb hby d9_3) (pc' := 12) rfl (by decide) (flt hk).2.1 ?_
    refine o_aloadN X0 hx (hb hby d9_12) rfl rfl ?_
    refine o_iconst X0 hx (hb hby d9_13) (v := 1) rfl ?_
    exact k_
  obtain ⟨cl2, Ar2, -, Sz2, Nn2, Hs2, -⟩ := id V1
  have hin2 : ¬ ((1 : Int32) < 0 ∨ cl2.slots.size ≤ ((1 : Int32)).toNatClampNeg) := inb_of Sz2 ⟨by decide, by decide⟩
  have hat2 : cl2.slots[((1 : Int32)).toNatClampNeg]? = some (.long x1) := Hs2.at hin2 rfl
  have go3 : Go p e below s₁ F0 s₁ (mkF m 26 #[vr a1, vi p2, vj x1, .second] [(.int (lcmpW (((x1.toUInt64 >>> ((p2 &&& (63 : Int32)) &&& 0x3f).toInt64.toUInt64).toInt64) &&& (1 : Int64)) (0 : Int64)))]) := by
    intro t_ k_
    refine go1 t_ ?_
    refine o_laload X0 hx hZ e0 Ar2 hin2 hat2 (hb hby d9_14) ?_
    refine o_lstoreN X0 hx (hb hby d9_15) (L' := #[vr a1, vi p2, vj x1, .second]) rfl ?_
    refine o_lloadN X0 hx (hb hby d9_16) rfl ?_
    refine o_iloadN X0 hx (hb hby d9_17) rfl ?_
    refine o_bipush X0 hx (hb hby d9_18) (v := 63) rfl ?_
    refine o_iand X0 hx (hb hby d9_20) ?_
    refine o_lushr X0 hx (hb hby d9_21) ?_
    refine o_lconst X0 hx (hb hby d9_22) (v := 1) rfl ?_
    refine o_land X0 hx (hb hby d9_23) ?_
    refine o_lconst X0 hx (hb hby d9_24) (v := 0) rfl ?_
    refine o_lcmp X0 hx (hb hby d9_25) ?_
    exact k_
  by_cases hc26_4 : (((x1.toUInt64 >>> ((p2 &&& (63 : Int32)) &&& 0x3f).toInt64.toUInt64).toInt64) &&& (1 : Int64)) = (0 : Int64)
  · skip
    have go5 : Go p e below s₁ F0 s₁ (mkF m 34 #[vr a1, vi p2, vj x1, .second] [(.int (0 : Int32))]) := by
      intro t_ k_
      refine go3 t_ ?_
      refine o_ifYes X0 hx (hb hby d9_26) (pc' := 33) rfl (by decide) ((if0 _ _).trans (teq ((lw_eq _ _).mpr hc26_4)).1) ?_
      refine o_iconst X0 hx (hb hby d9_33) (v := 0) rfl ?_
      exact k_
    obtain ⟨fs, hr, hrun, hended, hW, hsame⟩ := X0.leave (v := some (.int (0 : Int32))) (fun h => by rw [Bd.returns] at h; cases h)
    refine ⟨_, _, pre0 _ (go5 _ ?_), hrun, hended, _, _, rfl, ?_, ⟨_, rfl⟩, hW, hsame.mono (by decide) (by decide)⟩
    · skip
      exact retN X0 hx (t := .boolean) Bd.returns (by simp) (hb hby d9_34) hr
    · show Q9_1 Z a1 p2 k1 x0 x1 h0 n0 _ s₁.heap _
      rw [e0]
      exact ⟨(congrArg (fun z => some (Value.int z)) (show (0 : Int32) = f9_1 p2 x0 x1 from by unfold f9_1; rw [if_pos hc26_4])), N0, rfl⟩
  · skip
    have go6 : Go p e below s₁ F0 s₁ (mkF m 34 #[vr a1, vi p2, vj x1, .second] [(.int (1 : Int32))]) := by
      intro t_ k_
      refine go3 t_ ?_
      refine o_ifNo X0 hx (hb hby d9_26) ((if0 _ _).trans (feq (fun q => hc26_4 ((lw_eq _ _).mp q))).1) ?_
      refine o_iconst X0 hx (hb hby d9_29) (v := 1) rfl ?_
      refine o_goto X0 hx (hb hby d9_30) (pc' := 34) rfl (by decide) ?_
      exact k_
    obtain ⟨fs, hr, hrun, hended, hW, hsame⟩ := X0.leave (v := some (.int (1 : Int32))) (fun h => by rw [Bd.returns] at h; cases h)
    refine ⟨_, _, pre0 _ (go6 _ ?_), hrun, hended, _, _, rfl, ?_, ⟨_, rfl⟩, hW, hsame.mono (by decide) (by decide)⟩
    · skip
      exact retN X0 hx (t := .boolean) Bd.returns (by simp) (hb hby d9_34) hr
    · show Q9_1 Z a1 p2 k1 x0 x1 h0 n0 _ s₁.heap _
      rw [e0]
      exact ⟨(congrArg (fun z => some (Value.int z)) (show (1 : Int32) = f9_1 p2 x0 x1 from by unfold f9_1; rw [if_neg hc26_4])), N0, rfl⟩

theorem own_w12 (p : Int32) : ((1 : Int32) + (p &&& (1 : Int32))) = (0 : Int32) ∨ ((1 : Int32) + (p &&& (1 : Int32))) = (1 : Int32) ∨ ((1 : Int32) + (p &&& (1 : Int32))) = (2 : Int32) := by
  have h : (p &&& (1 : Int32)).toInt = p.toInt % 2 := c_mask p 1 1 (by decide) (by decide)
  have h1 := c_iadd (1 : Int32) (p &&& (1 : Int32))
  rw [show (1 : Int32).toInt = 1 from rfl] at h1
  have := ((1 : Int32) + (p &&& (1 : Int32))).toInt_lt; have := ((1 : Int32) + (p &&& (1 : Int32))).le_toInt
  have h2 : (((1 : Int32) + (p &&& (1 : Int32)))).toInt = 0 ∨ (((1 : Int32) + (p &&& (1 : Int32)))).toInt = 1 ∨ (((1 : Int32) + (p &&& (1 : Int32)))).toInt = 2 := by omega
  rcases h2 with h2 | h2 | h2
  · exact Or.inl (Int32.toInt_inj.mp h2)
  · exact Or.inr (Or.inl (Int32.toInt_inj.mp h2))
  · exact Or.inr (Or.inr (Int32.toInt_inj.mp h2))

theorem own_12 (p : Int32) : ((1 : Int32) + (p &&& (1 : Int32))) = (1 : Int32) ∨ ((1 : Int32) + (p &&& (1 : Int32))) = (2 : Int32) := by
  rcases own_w12 p with h | h | h
  · exfalso
    have h0 : (p &&& (1 : Int32)).toInt = p.toInt % 2 := c_mask p 1 1 (by decide) (by decide)
    have h1 := c_iadd (1 : Int32) (p &&& (1 : Int32))
    rw [h, show (1 : Int32).toInt = 1 from rfl, show (0 : Int32).toInt = 0 from rfl] at h1
    omega
  · exact Or.inl h
  · exact Or.inr h
theorem own_k64 {p k : Int32} (h : k = ((p &&& (2147483647 : Int32)) % (64 : Int32))) : ¬ k < (0 : Int32) ∧ k < (64 : Int32) := by
  have h0 : (p &&& (2147483647 : Int32)).toInt = p.toInt % 2147483648 := c_mask p 2147483647 31 (by decide) (by decide)
  have h1 : ((p &&& (2147483647 : Int32)) % (64 : Int32)).toInt = (p &&& (2147483647 : Int32)).toInt % 64 := (c_irem _ (64 : Int32) 64 rfl).1 (by omega)
  rw [h]; simp only [Int32.lt_iff_toInt_lt, show (0 : Int32).toInt = 0 from rfl, show (64 : Int32).toInt = 64 from rfl]; omega
theorem own_k128 {p k : Int32} (h : k = ((p &&& (2147483647 : Int32)) % (128 : Int32))) : ¬ k < (0 : Int32) ∧ k < (128 : Int32) := by
  have h0 : (p &&& (2147483647 : Int32)).toInt = p.toInt % 2147483648 := c_mask p 2147483647 31 (by decide) (by decide)
  have h1 : ((p &&& (2147483647 : Int32)) % (128 : Int32)).toInt = (p &&& (2147483647 : Int32)).toInt % 128 := (c_irem _ (128 : Int32) 128 rfl).1 (by omega)
  rw [h]; simp only [Int32.lt_iff_toInt_lt, show (0 : Int32).toInt = 0 from rfl, show (128 : Int32).toInt = 128 from rfl]; omega
theorem own_d0 {k : Int32} (h : ¬ k < (0 : Int32)) (h2 : k < (64 : Int32)) : (k / (64 : Int32)) = (0 : Int32) := by
  have q := (c_idiv k (64 : Int32) 64 rfl (by decide)).1
  apply Int32.toInt_inj.mp
  simp only [Int32.lt_iff_toInt_lt, show (0 : Int32).toInt = 0 from rfl, show (64 : Int32).toInt = 64 from rfl] at *
  rw [q (by omega)]; omega
theorem own_d1 {k : Int32} (h : k < (128 : Int32)) (h2 : ¬ k < (64 : Int32)) : (k / (64 : Int32)) = (1 : Int32) := by
  have q := (c_idiv k (64 : Int32) 64 rfl (by decide)).1
  apply Int32.toInt_inj.mp
  simp only [Int32.lt_iff_toInt_lt, show (1 : Int32).toInt = 1 from rfl, show (128 : Int32).toInt = 128 from rfl, show (64 : Int32).toInt = 64 from rfl] at *
  rw [q (by omega)]; omega
theorem own_p1 (v : BitVec 64) (n : Nat) (h : n < 64) : v &&& (1#64 <<< n) = 0#64 ↔ v.getLsbD n = false := by
  constructor
  · intro q
    have e := congrArg (fun z => z.getLsbD n) q
    simpa [BitVec.getLsbD_and, BitVec.getLsbD_shiftLeft, h] using e
  · intro q
    apply BitVec.eq_of_getLsbD_eq
    intro j hj
    rw [BitVec.getLsbD_and, BitVec.getLsbD_shiftLeft, BitVec.getLsbD_zero]
    by_cases e : j = n
    · subst e; simp [q]
    · by_cases l : j < n
      · simp [l]
      · have : (1#64).getLsbD (j - n) = false := by
          rw [BitVec.getLsbD_one]
          have : ¬ (j - n = 0) := by omega
          simp [this]
        simp [this]
theorem own_p2 (v : BitVec 64) (n : Nat) (h : n < 64) : (v >>> n) &&& 1#64 = 0#64 ↔ v.getLsbD n = false := by
  constructor
  · intro q
    have e := congrArg (fun z => z.getLsbD 0) q
    simpa [BitVec.getLsbD_and, BitVec.getLsbD_ushiftRight] using e
  · intro q
    apply BitVec.eq_of_getLsbD_eq
    intro j hj
    rw [BitVec.getLsbD_and, BitVec.getLsbD_ushiftRight, BitVec.getLsbD_zero, BitVec.getLsbD_one]
    by_cases e : j = 0
    · subst e; simp [q]
    · simp [e]
theorem own_bit (x : Int64) (k : Int32) : (if (x &&& ((1 : Int64) <<< (k &&& 0x3f).toInt64)) = (0 : Int64) then (0 : Int32) else (1 : Int32)) = (if (((x.toUInt64 >>> ((k &&& (63 : Int32)) &&& 0x3f).toInt64.toUInt64).toInt64) &&& (1 : Int64)) = (0 : Int64) then (0 : Int32) else (1 : Int32)) := by
  obtain ⟨n, hn⟩ : ∃ n, k.toBitVec.toNat % 64 = n := ⟨_, rfl⟩
  have hlt := (sm64 k n hn).2
  have hn' : (k &&& (63 : Int32)).toBitVec.toNat % 64 = n := by
    show (k.toBitVec &&& (63 : Int32).toBitVec).toNat % 64 = n
    rw [BitVec.toNat_and, show (63 : Int32).toBitVec.toNat = 2 ^ 6 - 1 from by decide, Nat.and_two_pow_sub_one_eq_mod]
    omega
  have A : (x &&& ((1 : Int64) <<< (k &&& 0x3f).toInt64)) = (0 : Int64) ↔ x.toBitVec.getLsbD n = false := by
    rw [← Int64.toBitVec_inj]
    show x.toBitVec &&& ((1 : Int64).toBitVec <<< ((k &&& 0x3f).toInt64.toBitVec.smod 64)) = (0 : Int64).toBitVec ↔ _
    rw [BitVec.shiftLeft_eq', (sm64 k n hn).1, smod64 n hlt]
    exact own_p1 x.toBitVec n hlt
  have B : (((x.toUInt64 >>> ((k &&& (63 : Int32)) &&& 0x3f).toInt64.toUInt64).toInt64) &&& (1 : Int64)) = (0 : Int64) ↔ x.toBitVec.getLsbD n = false := by
    rw [← Int64.toBitVec_inj]
    show (x.toBitVec >>> (((k &&& (63 : Int32)) &&& 0x3f).toInt64.toBitVec % 64)) &&& (1 : Int64).toBitVec = (0 : Int64).toBitVec ↔ _
    rw [BitVec.ushiftRight_eq', (sm64 (k &&& (63 : Int32)) n hn').1, show ((BitVec.ofNat 64 n) % 64).toNat = n by rw [BitVec.toNat_umod, BitVec.toNat_ofNat]; show n % 2 ^ 64 % 64 = n; omega]
    exact own_p2 x.toBitVec n hlt
  by_cases q : x.toBitVec.getLsbD n = false
  · rw [if_pos (A.mpr q), if_pos (B.mpr q)]
  · rw [if_neg (fun z => q (A.mp z)), if_neg (fun z => q (B.mp z))]

theorem pn_0 : plainName "com/example/grammar_game_solver/grammargamesolver/summary/NumberedSetsContainsPinLaw" = true := by first | (simp [plainName, overriddenIn]; done) | decide +kernel
theorem pd0_0 : parseMethodDescriptor "(I)V" = some ⟨[.int], none⟩ := by decide +kernel
theorem pd0_1 : parseMethodDescriptor "([J)I" = some ⟨[(.array .long)], some .int⟩ := by decide +kernel
theorem pd0_2 : parseMethodDescriptor "(II)Z" = some ⟨[.int, .int], some .boolean⟩ := by decide +kernel
theorem pd0_3 : parseMethodDescriptor "([JI)Z" = some ⟨[(.array .long), .int], some .boolean⟩ := by decide +kernel
theorem ef_0 (m : MethodId) (x0 : Int32) (x1 : Int64) (x2 : Int64) (x3 : Int64) (x4 : Int64) (x5 : Int32) : entryFrame m #[(.int x0), (.long x1), (.long x2), (.long x3), (.long x4), (.int x5)] maxLocals = mkF m 0 #[vi x0, vj x1, .second, vj x2, .second, vj x3, .second, vj x4, .second, vi x5, .unset, .unset, .unset, .unset, .unset, .unset, .unset, .unset] [] := by first | (simp [entryFrame, mkF, argsToLocals, Value.category, maxLocals]; done) | rfl
def Q0 (Z : State) (p1 : Int32) (q2 : Int64) (q3 : Int64) (q4 : Int64) (q5 : Int64) (p6 : Int32) (h0 : Heap) (n0 : Nat) (v : Option Value) (h : Heap) (L : List Loc) : Prop := v = some (.int (1 : Int32)) ∧ Fr n0 L
set_option maxRecDepth 65536 in
set_option maxHeartbeats 40000000 in
theorem rm0 (l : Launch) (Z : State) (a0 : Array Value) (hw : ∀ d ∈ tables_1, d.before a0 Z = true) (ws : List Jvm.Cond) (p1 : Int32) (q2 : Int64) (q3 : Int64) (q4 : Int64) (q5 : Int64) (p6 : Int32) (h0 : Heap) (n0 : Nat) (Z0 : n0 ≤ h0.size) :
    MetFree l x (head1 (Jvm.Cond.code x code maxLocals ret :: ws) room_1) (fun a U => a = #[(.int p1), (.long q2), (.long q3), (.long q4), (.long q5), (.int p6)] ∧ Z.Warmed39 U.vm ∧ U.heap = h0) (fun _ _ _ _ _ => True) (fun _ U o U' => ∃ v L, o = .returned v ∧ Q0 Z p1 q2 q3 q4 q5 p6 h0 n0 v U'.heap L ∧ FrameEnd U o U' L room_1.cells room_1.slots) := by
  refine MetFree.of_bodySF (plainFor_of_name pn_0) hisR ?_
  intro p e s m args below meth c s₁ Bd hml0 hP hK
  obtain ⟨rfl, hZ, hh⟩ := hP
  have hx := Bd.exec
  have hby := Bd.bytes
  have hml : c.maxLocals = 18 := hml0
  have hown : s.vm.findClass "com/example/grammar_game_solver/grammargamesolver/summary/NumberedSetsContainsPinLaw" = some m.cls := findClass_of_methodNamed Bd.named
  have hnm := (name_of_methodNamed Bd.named Bd.method).1
  have X0 : Stand p l e room_1 s m #[(.int p1), (.long q2), (.long q3), (.long q4), (.long q5), (.int p6)] below meth c s₁ [] 0 0 := Stand.of_body Bd
  have e0 : s₁.heap = h0 := by rw [← hh, Bd.state]; rfl
  have N0 := Fr.nil n0
  obtain ⟨F0, hF0⟩ : ∃ F : JFrame, F = entryFrame m #[(.int p1), (.long q2), (.long q3), (.long q4), (.long q5), (.int p6)] maxLocals := ⟨_, rfl⟩
  have pre0 : ∀ t, Steps p.tables e below (s₁.setTop F0) t → Steps p.tables e below (s₁.setTop (entryFrame m #[(.int p1), (.long q2), (.long q3), (.long q4), (.long q5), (.int p6)] maxLocals)) t := fun t k => hF0 ▸ k
  have go0 : Go p e below s₁ F0 s₁ (mkF m 0 #[vi p1, vj q2, .second, vj q3, .second, vj q4, .second, vj q5, .second, vi p6, .unset, .unset, .unset, .unset, .unset, .unset, .unset, .unset] []) := fun t k => castTop (hF0.trans (ef_0 m p1 q2 q3 q4 q5 p6)) k
  have go1 : Go p e below s₁ F0 s₁ (mkF m 7 #[vi p1, vj q2, .second, vj q3, .second, vj q4, .second, vj q5, .second, vi p6, vi ((1 : Int32) + (p1 &&& (1 : Int32))), .unset, .unset, .unset, .unset, .unset, .unset, .unset] []) := by
    intro t_ k_
    refine go0 t_ ?_
    refine o_iconst X0 hx (hb hby at_0) (v := 1) rfl ?_
    refine o_iloadN X0 hx (hb hby at_1) rfl ?_
    refine o_iconst X0 hx (hb hby at_2) (v := 1) rfl ?_
    refine o_iand X0 hx (hb hby at_3) ?_
    refine o_iadd X0 hx (hb hby at_4) ?_
    refine o_istore X0 hx (hb hby at_5) (L' := #[vi p1, vj q2, .second, vj q3, .second, vj q4, .second, vj q5, .second, vi p6, vi ((1 : Int32) + (p1 &&& (1 : Int32))), .unset, .unset, .unset, .unset, .unset, .unset, .unset]) rfl ?_
    exact k_
  have hcs2 : ((1 : Int32) + (p1 &&& (1 : Int32))) = (1 : Int32) ∨ ((1 : Int32) + (p1 &&& (1 : Int32))) = (2 : Int32) := own_12 _
  rcases hcs2 with hcs2 | hcs2
  · skip
    have go3 : Go p e below s₁ F0 s₁ (mkF m 7 #[vi p1, vj q2, .second, vj q3, .second, vj q4, .second, vj q5, .second, vi p6, vi (1 : Int32), .unset, .unset, .unset, .unset, .unset, .unset, .unset] []) := by rw [hcs2] at go1; exact go1
    have go4 : Go p e below s₁ F0 s₁ (mkF m 10 #[vi p1, vj q2, .second, vj q3, .second, vj q4, .second, vj q5, .second, vi p6, vi (1 : Int32), .unset, .unset, .unset, .unset, .unset, .unset, .unset] [(.int (p1 &&& (2 : Int32)))]) := by
      intro t_ k_
      refine go3 t_ ?_
      refine o_iloadN X0 hx (hb hby at_7) rfl ?_
      refine o_iconst X0 hx (hb hby at_8) (v := 2) rfl ?_
      refine o_iand X0 hx (hb hby at_9) ?_
      exact k_
    by_cases hc10_5 : (p1 &&& (2 : Int32)) = (0 : Int32)
    · skip
      have go6 : Go p e below s₁ F0 s₁ (mkF m 21 #[vi p1, vj q2, .second, vj q3, .second, vj q4, .second, vj q5, .second, vi p6, vi (1 : Int32), vi (0 : Int32), .unset, .unset, .unset, .unset, .unset, .unset] [(.int (2 : Int32))]) := by
        intro t_ k_
        refine go4 t_ ?_
        refine o_ifYes X0 hx (hb hby at_10) (pc' := 17) rfl (by decide) ((if0 _ _).trans (teq hc10_5).1) ?_
        refine o_iconst X0 hx (hb hby at_17) (v := 0) rfl ?_
        refine o_istore X0 hx (hb hby at_18) (L' := #[vi p1, vj q2, .second, vj q3, .second, vj q4, .second, vj q5, .second, vi p6, vi (1 : Int32), vi (0 : Int32), .unset, .unset, .unset, .unset, .unset, .unset]) rfl ?_
        refine o_iconst X0 hx (hb hby at_20) (v := 2) rfl ?_
        exact k_
      obtain ⟨T7, h7, k7, X7, e7, E7, A7, st7⟩ := newP X0 hx hZ (own_w hw 0 rfl) e0 (g := (mkF m 21 #[vi p1, vj q2, .second, vj q3, .second, vj q4, .second, vj q5, .second, vi p6, vi (1 : Int32), vi (0 : Int32), .unset, .unset, .unset, .unset, .unset, .unset] [(.int (2 : Int32))])) rfl (hb hby at_21) rfl (by decide) (cap := 2) (by decide) (by decide) (by decide) (by decide)
      obtain ⟨b7, gz7⟩ : ∃ z, z = h0.size := ⟨_, rfl⟩
      rw [← gz7] at A7 st7
      have g_b7 : n0 ≤ b7 := Nat.le_trans Z0 (Nat.le_of_eq gz7.symm)
      have Z8 : n0 ≤ h7.size := Nat.le_trans Z0 E7.1
      have V7 : Arv Z h7 b7 k7 .long (2 : Int32) [(.long (0 : Int64)), (.long (0 : Int64))] (.long (0 : Int64)) := (Arv.new A7 (by decide)).pad (pad_rep [] (.long (0 : Int64)) 2)
      have go9 : Go p e below s₁ F0 T7 (mkF m 23 #[vi p1, vj q2, .second, vj q3, .second, vj q4, .second, vj q5, .second, vi p6, vi (1 : Int32), vi (0 : Int32), .unset, .unset, .unset, .unset, .unset, .unset] [(.ref b7)]) := fun t_ k_ => go6 t_ (st7 t_ k_)
      have go10 : Go p e below s₁ F0 T7 (mkF m 29 #[vi p1, vj q2, .second, vj q3, .second, vj q4, .second, vj q5, .second, vi p6, vi (1 : Int32), vi (0 : Int32), vr b7, .unset, .unset, .unset, .unset, .unset] [(.long q2), (.int (0 : Int32)), (.ref b7)]) := by
        intro t_ k_
        refine go9 t_ ?_
        refine o_astore X7 hx (hb hby at_23) rfl (L' := #[vi p1, vj q2, .second, vj q3, .second, vj q4, .second, vj q5, .second, vi p6, vi (1 : Int32), vi (0 : Int32), vr b7, .unset, .unset, .unset, .unset, .unset]) rfl ?_
        refine o_aload X7 hx (hb hby at_25) rfl rfl ?_
        refine o_iconst X7 hx (hb hby at_27) (v := 0) rfl ?_
        refine o_lloadN X7 hx (hb hby at_28) rfl ?_
        exact k_
      obtain ⟨cl11, Ar11, q11, Sz11, Nn11, Hs11, G11⟩ := id V7
      have hin11 : ¬ ((0 : Int32) < 0 ∨ cl11.slots.size ≤ ((0 : Int32)).toNatClampNeg) := inb_of Sz11 ⟨by decide, by decide⟩
      obtain ⟨T11, h11, X11, e11, W11, st11⟩ := stJ X7 hx hZ e7 Ar11 (j := (0 : Int32)) hin11 (g := (mkF m 29 #[vi p1, vj q2, .second, vj q3, .second, vj q4, .second, vj q5, .second, vi p6, vi (1 : Int32), vi (0 : Int32), vr b7, .unset, .unset, .unset, .unset, .unset] [(.long q2), (.int (0 : Int32)), (.ref b7)])) rfl rfl (hb hby at_29)
      have V11 : Arv Z h11 b7 k7 .long (2 : Int32) [(.long q2), (.long (0 : Int64))] (.long (0 : Int64)) := Arv.set Ar11 q11 Sz11 Nn11 Hs11 G11 rfl W11 0 rfl (Nat.le_of_ble_eq_true rfl)
      have Z12 : n0 ≤ h11.size := Nat.le_trans Z8 (Keep.of_wr W11).1
      have N11 := Fr.snoc X11 N0 g_b7
      have go13 : Go p e below s₁ F0 T11 (mkF m 30 #[vi p1, vj q2, .second, vj q3, .second, vj q4, .second, vj q5, .second, vi p6, vi (1 : Int32), vi (0 : Int32), vr b7, .unset, .unset, .unset, .unset, .unset] []) := fun t_ k_ => go10 t_ (st11 t_ k_)
      have go14 : Go p e below s₁ F0 T11 (mkF m 34 #[vi p1, vj q2, .second, vj q3, .second, vj q4, .second, vj q5, .second, vi p6, vi (1 : Int32), vi (0 : Int32), vr b7, .unset, .unset, .unset, .unset, .unset] [(.long q3), (.int (1 : Int32)), (.ref b7)]) := by
        intro t_ k_
        refine go13 t_ ?_
        refine o_aload X11 hx (hb hby at_30) rfl rfl ?_
        refine o_iconst X11 hx (hb hby at_32) (v := 1) rfl ?_
        refine o_lloadN X11 hx (hb hby at_33) rfl ?_
        exact k_
      obtain ⟨cl15, Ar15, q15, Sz15, Nn15, Hs15, G15⟩ := id V11
      have hin15 : ¬ ((1 : Int32) < 0 ∨ cl15.slots.size ≤ ((1 : Int32)).toNatClampNeg) := inb_of Sz15 ⟨by decide, by decide⟩
      obtain ⟨T15, h15, X15, e15, W15, st15⟩ := stJ X11 hx hZ e11 Ar15 (j := (1 : Int32)) hin15 (g := (mkF m 34 #[vi p1, vj q2, .second, vj q3, .second, vj q4, .second, vj q5, .second, vi p6, vi (1 : Int32), vi (0 : Int32), vr b7, .unset, .unset, .unset, .unset, .unset] [(.long q3), (.int (1 : Int32)), (.ref b7)])) rfl rfl (hb hby at_34)
      have V15 : Arv Z h15 b7 k7 .long (2 : Int32) [(.long q2), (.long q3)] (.long (0 : Int64)) := Arv.set Ar15 q15 Sz15 Nn15 Hs15 G15 rfl W15 1 rfl (Nat.le_of_ble_eq_true rfl)
      have Z16 : n0 ≤ h15.size := Nat.le_trans Z12 (Keep.of_wr W15).1
      have N15 := Fr.snoc X15 N11 g_b7
      have go17 : Go p e below s₁ F0 T15 (mkF m 35 #[vi p1, vj q2, .second, vj q3, .second, vj q4, .second, vj q5, .second, vi p6, vi (1 : Int32), vi (0 : Int32), vr b7, .unset, .unset, .unset, .unset, .unset] []) := fun t_ k_ => go14 t_ (st15 t_ k_)
      have go18 : Go p e below s₁ F0 T15 (mkF m 36 #[vi p1, vj q2, .second, vj q3, .second, vj q4, .second, vj q5, .second, vi p6, vi (1 : Int32), vi (0 : Int32), vr b7, .unset, .unset, .unset, .unset, .unset] [(.int (2 : Int32))]) := by
        intro t_ k_
        refine go17 t_ ?_
        refine o_iconst X15 hx (hb hby at_35) (v := 2) rfl ?_
        exact k_
      obtain ⟨T19, h19, k19, X19, e19, E19, A19, st19⟩ := newP X15 hx hZ (own_w hw 0 rfl) e15 (g := (mkF m 36 #[vi p1, vj q2, .second, vj q3, .second, vj q4, .second, vj q5, .second, vi p6, vi (1 : Int32), vi (0 : Int32), vr b7, .unset, .unset, .unset, .unset, .unset] [(.int (2 : Int32))])) rfl (hb hby at_36) rfl (by decide) (cap := 2) (by decide) (by decide) (by decide) (by decide)
      obtain ⟨b19, gz19⟩ : ∃ z, z = h15.size := ⟨_, rfl⟩
      rw [← gz19] at A19 st19
      have ne20 : b7 ≠ b19 := Nat.ne_of_lt (Nat.lt_of_lt_of_le V15.lt (Nat.le_of_eq gz19.symm))
      have g_b19 : n0 ≤ b19 := Nat.le_trans Z16 (Nat.le_of_eq gz19.symm)
      have Z21 : n0 ≤ h19.size := Nat.le_trans Z16 E19.1
      have V19 : Arv Z h19 b19 k19 .long (2 : Int32) [(.long (0 : Int64)), (.long (0 : Int64))] (.long (0 : Int64)) := (Arv.new A19 (by decide)).pad (pad_rep [] (.long (0 : Int64)) 2)
      have go22 : Go p e below s₁ F0 T19 (mkF m 38 #[vi p1, vj q2, .second, vj q3, .second, vj q4, .second, vj q5, .second, vi p6, vi (1 : Int32), vi (0 : Int32), vr b7, .unset, .unset, .unset, .unset, .unset] [(.ref b19)]) := fun t_ k_ => go18 t_ (st19 t_ k_)
      have go23 : Go p e below s₁ F0 T19 (mkF m 63 #[vi p1, vj q2, .second, vj q3, .second, vj q4, .second, vj q5, .second, vi p6, vi (1 : Int32), vi (0 : Int32), vr b7, vr b19, .unset, .unset, .unset, .unset] [(.long q4), (.int (0 : Int32)), (.ref b19)]) := by
        intro t_ k_
        refine go22 t_ ?_
        refine o_astore X19 hx (hb hby at_38) rfl (L' := #[vi p1, vj q2, .second, vj q3, .second, vj q4, .second, vj q5, .second, vi p6, vi (1 : Int32), vi (0 : Int32), vr b7, vr b19, .unset, .unset, .unset, .unset]) rfl ?_
        refine o_iload X19 hx (hb hby at_40) rfl ?_
        refine o_ifYes X19 hx (hb hby at_42) (pc' := 58) rfl (by decide) ((if0 _ _).trans (teq (by decide : (0 : Int32) = (0 : Int32))).1) ?_
        refine o_aload X19 hx (hb hby at_58) rfl rfl ?_
        refine o_iconst X19 hx (hb hby at_60) (v := 0) rfl ?_
        refine o_lload X19 hx (hb hby at_61) rfl ?_
        exact k_
      obtain ⟨cl24, Ar24, q24, Sz24, Nn24, Hs24, G24⟩ := id V19
      have hin24 : ¬ ((0 : Int32) < 0 ∨ cl24.slots.size ≤ ((0 : Int32)).toNatClampNeg) := inb_of Sz24 ⟨by decide, by decide⟩
      obtain ⟨T24, h24, X24, e24, W24, st24⟩ := stJ X19 hx hZ e19 Ar24 (j := (0 : Int32)) hin24 (g := (mkF m 63 #[vi p1, vj q2, .second, vj q3, .second, vj q4, .second, vj q5, .second, vi p6, vi (1 : Int32), vi (0 : Int32), vr b7, vr b19, .unset, .unset, .unset, .unset] [(.long q4), (.int (0 : Int32)), (.ref b19)])) rfl rfl (hb hby at_63)
      have V24 : Arv Z h24 b19 k19 .long (2 : Int32) [(.long q4), (.long (0 : Int64))] (.long (0 : Int64)) := Arv.set Ar24 q24 Sz24 Nn24 Hs24 G24 rfl W24 0 rfl (Nat.le_of_ble_eq_true rfl)
      have Z25 : n0 ≤ h24.size := Nat.le_trans Z21 (Keep.of_wr W24).1
      have N24 := Fr.snoc X24 N15 g_b19
      have go26 : Go p e below s₁ F0 T24 (mkF m 64 #[vi p1, vj q2, .second, vj q3, .second, vj q4, .second, vj q5, .second, vi p6, vi (1 : Int32), vi (0 : Int32), vr b7, vr b19, .unset, .unset, .unset, .unset] []) := fun t_ k_ => go23 t_ (st24 t_ k_)
      have go27 : Go p e below s₁ F0 T24 (mkF m 69 #[vi p1, vj q2, .second, vj q3, .second, vj q4, .second, vj q5, .second, vi p6, vi (1 : Int32), vi (0 : Int32), vr b7, vr b19, .unset, .unset, .unset, .unset] [(.long q5), (.int (1 : Int32)), (.ref b19)]) := by
        intro t_ k_
        refine go26 t_ ?_
        refine o_aload X24 hx (hb hby at_64) rfl rfl ?_
        refine o_iconst X24 hx (hb hby at_66) (v := 1) rfl ?_
        refine o_lload X24 hx (hb hby at_67) rfl ?_
        exact k_
      obtain ⟨cl28, Ar28, q28, Sz28, Nn28, Hs28, G28⟩ := id V24
      have hin28 : ¬ ((1 : Int32) < 0 ∨ cl28.slots.size ≤ ((1 : Int32)).toNatClampNeg) := inb_of Sz28 ⟨by decide, by decide⟩
      obtain ⟨T28, h28, X28, e28, W28, st28⟩ := stJ X24 hx hZ e24 Ar28 (j := (1 : Int32)) hin28 (g := (mkF m 69 #[vi p1, vj q2, .second, vj q3, .second, vj q4, .second, vj q5, .second, vi p6, vi (1 : Int32), vi (0 : Int32), vr b7, vr b19, .unset, .unset, .unset, .unset] [(.long q5), (.int (1 : Int32)), (.ref b19)])) rfl rfl (hb hby at_69)
      have V28 : Arv Z h28 b19 k19 .long (2 : Int32) [(.long q4), (.long q5)] (.long (0 : Int64)) := Arv.set Ar28 q28 Sz28 Nn28 Hs28 G28 rfl W28 1 rfl (Nat.le_of_ble_eq_true rfl)
      have Z29 : n0 ≤ h28.size := Nat.le_trans Z25 (Keep.of_wr W28).1
      have N28 := Fr.snoc X28 N24 g_b19
      have go30 : Go p e below s₁ F0 T28 (mkF m 70 #[vi p1, vj q2, .second, vj q3, .second, vj q4, .second, vj q5, .second, vi p6, vi (1 : Int32), vi (0 : Int32), vr b7, vr b19, .unset, .unset, .unset, .unset] []) := fun t_ k_ => go27 t_ (st28 t_ k_)
      have go31 : Go p e below s₁ F0 T28 (mkF m 83 #[vi p1, vj q2, .second, vj q3, .second, vj q4, .second, vj q5, .second, vi p6, vi (1 : Int32), vi (0 : Int32), vr b7, vr b19, vi ((p6 &&& (2147483647 : Int32)) % (64 : Int32)), .unset, .unset, .unset] []) := by
        intro t_ k_
        refine go30 t_ ?_
        refine o_iload X28 hx (hb hby at_70) rfl ?_
        refine o_ldc X28 hx hown (mvT hZ (own_w hw 1 rfl)) (hb hby at_72) ?_
        refine o_iand X28 hx (hb hby at_74) ?_
        refine o_bipush X28 hx (hb hby at_75) (v := 64) rfl ?_
        refine o_iload X28 hx (hb hby at_77) rfl ?_
        refine o_imulE X28 hx (hb hby at_79) (v := 64) rfl ?_
        refine o_irem X28 hx (hb hby at_80) (by decide) ?_
        refine o_istore X28 hx (hb hby at_81) (L' := #[vi p1, vj q2, .second, vj q3, .second, vj q4, .second, vj q5, .second, vi p6, vi (1 : Int32), vi (0 : Int32), vr b7, vr b19, vi ((p6 &&& (2147483647 : Int32)) % (64 : Int32)), .unset, .unset, .unset]) rfl ?_
        exact k_
      obtain ⟨k, h_k⟩ : ∃ z : Int32, z = ((p6 &&& (2147483647 : Int32)) % (64 : Int32)) := ⟨_, rfl⟩
      have go32 : Go p e below s₁ F0 T28 (mkF m 83 #[vi p1, vj q2, .second, vj q3, .second, vj q4, .second, vj q5, .second, vi p6, vi (1 : Int32), vi (0 : Int32), vr b7, vr b19, vi k, .unset, .unset, .unset] []) := by rw [h_k]; exact go31
      obtain ⟨T33, h33, X33, e33, E33, A33, D33, -, st33⟩ := newO X28 hx hZ hown (own_w hw 2 rfl) (own_w hw 3 rfl) (own_w hw 4 rfl) e28 (g := (mkF m 83 #[vi p1, vj q2, .second, vj q3, .second, vj q4, .second, vj q5, .second, vi p6, vi (1 : Int32), vi (0 : Int32), vr b7, vr b19, vi k, .unset, .unset, .unset] [])) rfl (hb hby at_83) (by decide) (by decide)
      obtain ⟨b33, gz33⟩ : ∃ z, z = h28.size := ⟨_, rfl⟩
      rw [← gz33] at A33 D33 st33
      have F34 : Arv Z h28 b7 k7 .long (2 : Int32) [(.long q2), (.long q3)] (.long (0 : Int64)) := (((V15.ext E19).other W24 ne20).other W28 ne20)
      have ne35 : b7 ≠ b33 := Nat.ne_of_lt (Nat.lt_of_lt_of_le F34.lt (Nat.le_of_eq gz33.symm))
      have ne36 : b19 ≠ b33 := Nat.ne_of_lt (Nat.lt_of_lt_of_le V28.lt (Nat.le_of_eq gz33.symm))
      have g_b33 : n0 ≤ b33 := Nat.le_trans Z29 (Nat.le_of_eq gz33.symm)
      have Z37 : n0 ≤ h33.size := Nat.le_trans Z29 E33.1
      have F38 : Fld Z h33 b33 c_0 "width" "I" (.int (0 : Int32)) := D33 (Or.inr (own_w hw 12 rfl)) (ty := .int) (by decide)
      have F39 : Fld Z h33 b33 c_0 "words" "[J" .null := D33 (Or.inl (own_w hw 14 rfl)) (ty := (.array .long)) (by decide)
      have F40 : Fld Z h33 b33 c_0 "hashes" "[I" .null := D33 (Or.inl (own_w hw 17 rfl)) (ty := (.array .int)) (by decide)
      have F41 : Fld Z h33 b33 c_0 "slots" "[I" .null := D33 (Or.inl (own_w hw 19 rfl)) (ty := (.array .int)) (by decide)
      have F42 : Fld Z h33 b33 c_0 "count" "I" (.int (0 : Int32)) := D33 (Or.inl (own_w hw 38 rfl)) (ty := .int) (by decide)
      have go43 : Go p e below s₁ F0 T33 (mkF m 86 #[vi p1, vj q2, .second, vj q3, .second, vj q4, .second, vj q5, .second, vi p6, vi (1 : Int32), vi (0 : Int32), vr b7, vr b19, vi k, .unset, .unset, .unset] [(.ref b33)]) := fun t_ k_ => go32 t_ (st33 t_ k_)
      have go44 : Go p e below s₁ F0 T33 (mkF m 89 #[vi p1, vj q2, .second, vj q3, .second, vj q4, .second, vj q5, .second, vi p6, vi (1 : Int32), vi (0 : Int32), vr b7, vr b19, vi k, .unset, .unset, .unset] [(.int (1 : Int32)), (.ref b33), (.ref b33)]) := by
        intro t_ k_
        refine go43 t_ ?_
        refine o_dup X33 hx (hb hby at_86) rfl ?_
        refine o_iload X33 hx (hb hby at_87) rfl ?_
        exact k_
      obtain ⟨_, _, ⟨T45, L45, k45, n45⟩, -, X45, ⟨Lc45, hQ45, l45, y45, z45⟩, st45⟩ := X33.specialBack hx (y := y_2) rfl hown (mvT hZ (own_w hw 5 rfl)) (mvT hZ (own_w hw 6 rfl)) (mvT hZ (own_w hw 7 rfl)) (by decide) (backOf (W := 1) (rm1_w1 l Z a0 hw [] b33 h33 n0 Z37 A33 F38 F39 F40 F41 F42 g_b33) hZ (own_w hw 7 rfl) (own_w hw 4 rfl) (by decide) (by decide)) (g := (mkF m 89 #[vi p1, vj q2, .second, vj q3, .second, vj q4, .second, vj q5, .second, vi p6, vi (1 : Int32), vi (0 : Int32), vr b7, vr b19, vi k, .unset, .unset, .unset] [(.int (1 : Int32)), (.ref b33), (.ref b33)])) rfl (by rw [hml]; rfl) (Steps.refl _) (a := b33) (argsL := [(.int (1 : Int32))]) (rest := [(.ref b33)]) (lenOf pd0_0 rfl) rfl (by show 2 * 0 + _ ≤ _; exact Nat.le_of_eq rfl) (hb hby at_89) (fun _ _ => ⟨rfl, e33, (by decide : 3 + 3 ≤ _), (by decide : 9 + 64 ≤ _)⟩)
      dsimp only [Pt.U, Pt.locs, Pt.cells, Pt.slots] at X45 l45 y45 z45 st45 hQ45
      subst l45 y45 z45
      obtain ⟨bw_45, bh_45, bs_45, kw_45, kh_45, ks_45, rfl, Nq45, Kc45, hbw_45, hbh_45, hbs_45, nwh_45, nws_45, nhs_45, Fwi_45, Fwo_45, Fha_45, Fsl_45, Fco_45, Vw_45, Vh_45, Vs_45⟩ := hQ45
      have N45 := Fr.app N28 Nq45
      have F46 : Arv Z h33 b7 k7 .long (2 : Int32) [(.long q2), (.long q3)] (.long (0 : Int64)) := (F34.ext E33)
      have ne47 : b7 ≠ bw_45 := Nat.ne_of_lt (Nat.lt_of_lt_of_le F46.lt hbw_45)
      have F48 : Arv Z h33 b19 k19 .long (2 : Int32) [(.long q4), (.long q5)] (.long (0 : Int64)) := (V28.ext E33)
      have ne49 : b19 ≠ bw_45 := Nat.ne_of_lt (Nat.lt_of_lt_of_le F48.lt hbw_45)
      have ne50 : b33 ≠ bw_45 := Nat.ne_of_lt (Nat.lt_of_lt_of_le A33.lt hbw_45)
      have g_bw_45 : n0 ≤ bw_45 := Nat.le_trans Z37 hbw_45
      have ne51 : b7 ≠ bh_45 := Nat.ne_of_lt (Nat.lt_of_lt_of_le F46.lt hbh_45)
      have ne52 : b19 ≠ bh_45 := Nat.ne_of_lt (Nat.lt_of_lt_of_le F48.lt hbh_45)
      have ne53 : b33 ≠ bh_45 := Nat.ne_of_lt (Nat.lt_of_lt_of_le A33.lt hbh_45)
      have g_bh_45 : n0 ≤ bh_45 := Nat.le_trans Z37 hbh_45
      have ne54 : b7 ≠ bs_45 := Nat.ne_of_lt (Nat.lt_of_lt_of_le F46.lt hbs_45)
      have ne55 : b19 ≠ bs_45 := Nat.ne_of_lt (Nat.lt_of_lt_of_le F48.lt hbs_45)
      have ne56 : b33 ≠ bs_45 := Nat.ne_of_lt (Nat.lt_of_lt_of_le A33.lt hbs_45)
      have g_bs_45 : n0 ≤ bs_45 := Nat.le_trans Z37 hbs_45
      have Z57 : n0 ≤ T45.heap.size := Nat.le_trans Z37 Kc45.1
      have go58 : Go p e below s₁ F0 T45 (mkF m 92 #[vi p1, vj q2, .second, vj q3, .second, vj q4, .second, vj q5, .second, vi p6, vi (1 : Int32), vi (0 : Int32), vr b7, vr b19, vi k, .unset, .unset, .unset] [(.ref b33)]) := fun t_ k_ => go44 t_ (st45.trans k_)
      have F59 : Exa Z T45.heap b33 c_0 := (A33.keep Kc45)
      have F60 : Arv Z T45.heap b7 k7 .long (2 : Int32) [(.long q2), (.long q3)] (.long (0 : Int64)) := (F46.keep Kc45 (ninS ne35 nin0))
      have go61 : Go p e below s₁ F0 T45 (mkF m 98 #[vi p1, vj q2, .second, vj q3, .second, vj q4, .second, vj q5, .second, vi p6, vi (1 : Int32), vi (0 : Int32), vr b7, vr b19, vi k, vr b33, .unset, .unset] [(.ref b7), (.ref b33)]) := by
        intro t_ k_
        refine go58 t_ ?_
        refine o_astore X45 hx (hb hby at_92) rfl (L' := #[vi p1, vj q2, .second, vj q3, .second, vj q4, .second, vj q5, .second, vi p6, vi (1 : Int32), vi (0 : Int32), vr b7, vr b19, vi k, vr b33, .unset, .unset]) rfl ?_
        refine o_aload X45 hx (hb hby at_94) rfl rfl ?_
        refine o_aload X45 hx (hb hby at_96) rfl rfl ?_
        exact k_
      obtain ⟨cq62, kq62, q62a, q62b, q62c⟩ := isOf hZ rfl F59
      obtain ⟨_, _, ⟨T62, L62, k62, n62⟩, -, X62, ⟨Lc62, hQ62, l62, y62, z62⟩, st62⟩ := X45.virtualBack hx (y := y_4) (z := y_4) hown (mvT hZ (own_w hw 20 rfl)) (mvT hZ (own_w hw 21 rfl)) (notFace_of_selects (args := #[]) (mvT hZ (own_w hw 23 rfl))) (mvT hZ (own_w hw 23 rfl)) (mvT hZ (own_w hw 22 rfl)) (by decide) (backOf (W := 0) (rm3_a1 l Z a0 hw [] b33 b7 bw_45 bh_45 bs_45 kw_45 kh_45 ks_45 k7 q2 q3 (T45.heap) n0 Z57 F59 Fwi_45 Fwo_45 Fha_45 Fsl_45 Fco_45 Vw_45 Vh_45 Vs_45 F60 g_b33 g_bw_45 g_bh_45 g_bs_45 ne50 ne53 ne56 ne47 ne51 ne54 (Ne.symm ne35) nwh_45 nws_45 nhs_45) hZ (own_w hw 24 rfl) (own_w hw 4 rfl) (by decide) (by decide)) q62a q62c (g := (mkF m 98 #[vi p1, vj q2, .second, vj q3, .second, vj q4, .second, vj q5, .second, vi p6, vi (1 : Int32), vi (0 : Int32), vr b7, vr b19, vi k, vr b33, .unset, .unset] [(.ref b7), (.ref b33)])) rfl (by rw [hml]; rfl) (Steps.refl _) (argsL := [(.ref b7)]) (rest := []) (lenOf pd0_1 rfl) rfl (by show 2 * 0 + _ ≤ _; exact Nat.le_of_eq rfl) (hb hby at_98) (fun _ _ => ⟨rfl, rfl, (by decide : 6 + 0 ≤ _), (by decide : 73 + 0 ≤ _)⟩)
      dsimp only [Pt.U, Pt.locs, Pt.cells, Pt.slots] at X62 l62 y62 z62 st62 hQ62
      subst l62 y62 z62
      obtain ⟨hs_62, sl_62, rfl, Nq62, Kc62, Fwi_62, Fwo_62, Fha_62, Fsl_62, Fco_62, Vw_62, Vh_62, Vs_62, hhs_62, hsl_62⟩ := hQ62
      have N62 := Fr.app N45 Nq62
      have Z63 : n0 ≤ T62.heap.size := Nat.le_trans Z57 Kc62.1
      have go64 : Go p e below s₁ F0 T62 (mkF m 101 #[vi p1, vj q2, .second, vj q3, .second, vj q4, .second, vj q5, .second, vi p6, vi (1 : Int32), vi (0 : Int32), vr b7, vr b19, vi k, vr b33, .unset, .unset] [(.int (0 : Int32))]) := fun t_ k_ => go61 t_ (st62.trans k_)
      have F65 : Exa Z T62.heap b33 c_0 := (F59.keep Kc62)
      have F66 : Arv Z T62.heap b19 k19 .long (2 : Int32) [(.long q4), (.long q5)] (.long (0 : Int64)) := ((F48.keep Kc45 (ninS ne36 nin0)).keep Kc62 (ninS ne36 (ninS ne49 (ninS ne52 (ninS ne55 nin0)))))
      have go67 : Go p e below s₁ F0 T62 (mkF m 107 #[vi p1, vj q2, .second, vj q3, .second, vj q4, .second, vj q5, .second, vi p6, vi (1 : Int32), vi (0 : Int32), vr b7, vr b19, vi k, vr b33, vi (0 : Int32), .unset] [(.ref b19), (.ref b33)]) := by
        intro t_ k_
        refine go64 t_ ?_
        refine o_istore X62 hx (hb hby at_101) (L' := #[vi p1, vj q2, .second, vj q3, .second, vj q4, .second, vj q5, .second, vi p6, vi (1 : Int32), vi (0 : Int32), vr b7, vr b19, vi k, vr b33, vi (0 : Int32), .unset]) rfl ?_
        refine o_aload X62 hx (hb hby at_103) rfl rfl ?_
        refine o_aload X62 hx (hb hby at_105) rfl rfl ?_
        exact k_
      obtain ⟨cq68, kq68, q68a, q68b, q68c⟩ := isOf hZ rfl F65
      obtain ⟨_, _, ⟨T68, L68, k68, n68⟩, -, X68, ⟨Lc68, hQ68, l68, y68, z68⟩, st68⟩ := X62.virtualBack hx (y := y_4) (z := y_4) hown (mvT hZ (own_w hw 20 rfl)) (mvT hZ (own_w hw 21 rfl)) (notFace_of_selects (args := #[]) (mvT hZ (own_w hw 23 rfl))) (mvT hZ (own_w hw 23 rfl)) (mvT hZ (own_w hw 22 rfl)) (by decide) (backOf (W := 0) (rm3_b1 l Z a0 hw [] b33 b19 bw_45 bh_45 bs_45 kw_45 kh_45 ks_45 k19 hs_62 sl_62 q2 q4 q5 (T62.heap) n0 Z63 F65 Fwi_62 Fwo_62 Fha_62 Fsl_62 Fco_62 Vw_62 Vh_62 Vs_62 F66 g_b33 g_bw_45 g_bh_45 g_bs_45 ne50 ne53 ne56 ne49 ne52 ne55 (Ne.symm ne36) nwh_45 nws_45 nhs_45 hhs_62 hsl_62) hZ (own_w hw 24 rfl) (own_w hw 4 rfl) (by decide) (by decide)) q68a q68c (g := (mkF m 107 #[vi p1, vj q2, .second, vj q3, .second, vj q4, .second, vj q5, .second, vi p6, vi (1 : Int32), vi (0 : Int32), vr b7, vr b19, vi k, vr b33, vi (0 : Int32), .unset] [(.ref b19), (.ref b33)])) rfl (by rw [hml]; rfl) (Steps.refl _) (argsL := [(.ref b19)]) (rest := []) (lenOf pd0_1 rfl) rfl (by show 2 * 0 + _ ≤ _; exact Nat.le_of_eq rfl) (hb hby at_107) (fun _ _ => ⟨rfl, rfl, (by decide : 6 + 0 ≤ _), (by decide : 73 + 0 ≤ _)⟩)
      dsimp only [Pt.U, Pt.locs, Pt.cells, Pt.slots] at X68 l68 y68 z68 st68 hQ68
      subst l68 y68 z68
      obtain ⟨n_68, w0_68, rfl, Nq68, Kc68, Fwi_68, Fwo_68, Vw_68, hP_68⟩ := hQ68
      have N68 := Fr.app N62 Nq68
      have Z69 : n0 ≤ T68.heap.size := Nat.le_trans Z63 Kc68.1
      have go70 : Go p e below s₁ F0 T68 (mkF m 110 #[vi p1, vj q2, .second, vj q3, .second, vj q4, .second, vj q5, .second, vi p6, vi (1 : Int32), vi (0 : Int32), vr b7, vr b19, vi k, vr b33, vi (0 : Int32), .unset] [(.int n_68)]) := fun t_ k_ => go67 t_ (st68.trans k_)
      have hcs71 : n_68 = (0 : Int32) ∨ n_68 = (1 : Int32) := own_or hP_68
      rcases hcs71 with hcs71 | hcs71
      · skip
        have go72 : Go p e below s₁ F0 T68 (mkF m 110 #[vi p1, vj q2, .second, vj q3, .second, vj q4, .second, vj q5, .second, vi p6, vi (1 : Int32), vi (0 : Int32), vr b7, vr b19, vi k, vr b33, vi (0 : Int32), .unset] [(.int (0 : Int32))]) := by rw [hcs71] at go70; exact go70
        have go73 : Go p e below s₁ F0 T68 (mkF m 118 #[vi p1, vj q2, .second, vj q3, .second, vj q4, .second, vj q5, .second, vi p6, vi (1 : Int32), vi (0 : Int32), vr b7, vr b19, vi k, vr b33, vi (0 : Int32), vi (0 : Int32)] [(.int k), (.int (0 : Int32)), (.ref b33)]) := by
          intro t_ k_
          refine go72 t_ ?_
          refine o_istore X68 hx (hb hby at_110) (L' := #[vi p1, vj q2, .second, vj q3, .second, vj q4, .second, vj q5, .second, vi p6, vi (1 : Int32), vi (0 : Int32), vr b7, vr b19, vi k, vr b33, vi (0 : Int32), vi (0 : Int32)]) rfl ?_
          refine o_aload X68 hx (hb hby at_112) rfl rfl ?_
          refine o_iload X68 hx (hb hby at_114) rfl ?_
          refine o_iload X68 hx (hb hby at_116) rfl ?_
          exact k_
        have F75 : Exa Z T68.heap b33 c_0 := (F65.keep Kc68)
        obtain ⟨cq74, kq74, q74a, q74b, q74c⟩ := isOf hZ rfl F75
        obtain ⟨_, _, ⟨T74, L74, k74, n74⟩, -, X74, ⟨Lc74, hQ74, l74, y74, z74⟩, st74⟩ := X68.virtualBack hx (y := y_6) (z := y_6) hown (mvT hZ (own_w hw 47 rfl)) (mvT hZ (own_w hw 48 rfl)) (notFace_of_selects (args := #[]) (mvT hZ (own_w hw 50 rfl))) (mvT hZ (own_w hw 50 rfl)) (mvT hZ (own_w hw 49 rfl)) (by decide) (backOf (W := 0) (rm8_1_0_0 l Z a0 hw [] b33 k bw_45 kw_45 q2 w0_68 (T68.heap) n0 Z69 Fwi_68 Fwo_68 Vw_68 (own_d0 (own_k64 h_k).1 (own_k64 h_k).2)) hZ (own_w hw 51 rfl) (own_w hw 4 rfl) (by decide) (by decide)) q74a q74c (g := (mkF m 118 #[vi p1, vj q2, .second, vj q3, .second, vj q4, .second, vj q5, .second, vi p6, vi (1 : Int32), vi (0 : Int32), vr b7, vr b19, vi k, vr b33, vi (0 : Int32), vi (0 : Int32)] [(.int k), (.int (0 : Int32)), (.ref b33)])) rfl (by rw [hml]; rfl) (Steps.refl _) (argsL := [(.int (0 : Int32)), (.int k)]) (rest := []) (lenOf pd0_2 rfl) rfl (by show 2 * 0 + _ ≤ _; exact Nat.le_of_eq rfl) (hb hby at_118) (fun _ _ => ⟨rfl, rfl, (by decide : 6 + 0 ≤ _), (by decide : 73 + 0 ≤ _)⟩)
        dsimp only [Pt.U, Pt.locs, Pt.cells, Pt.slots] at X74 l74 y74 z74 st74 hQ74
        subst l74 y74 z74
        obtain ⟨rfl, Nq74, eh74⟩ := hQ74
        have N74 := Fr.app N68 Nq74
        have go76 : Go p e below s₁ F0 T74 (mkF m 121 #[vi p1, vj q2, .second, vj q3, .second, vj q4, .second, vj q5, .second, vi p6, vi (1 : Int32), vi (0 : Int32), vr b7, vr b19, vi k, vr b33, vi (0 : Int32), vi (0 : Int32)] [(.int (f8_1_0_0 k q2 w0_68))]) := fun t_ k_ => go73 t_ (st74.trans k_)
        have F77 : Arv Z T68.heap b7 k7 .long (2 : Int32) [(.long q2), (.long q3)] (.long (0 : Int64)) := ((F60.keep Kc62 (ninS ne35 (ninS ne47 (ninS ne51 (ninS ne54 nin0))))).keep Kc68 (ninS ne35 (ninS ne47 (ninS ne51 (ninS ne54 nin0)))))
        have go78 : Go p e below s₁ F0 T74 (mkF m 125 #[vi p1, vj q2, .second, vj q3, .second, vj q4, .second, vj q5, .second, vi p6, vi (1 : Int32), vi (0 : Int32), vr b7, vr b19, vi k, vr b33, vi (0 : Int32), vi (0 : Int32)] [(.int k), (.ref b7), (.int (f8_1_0_0 k q2 w0_68))]) := by
          intro t_ k_
          refine go76 t_ ?_
          refine o_aload X74 hx (hb hby at_121) rfl rfl ?_
          refine o_iload X74 hx (hb hby at_123) rfl ?_
          exact k_
        obtain ⟨_, _, ⟨T79, L79, k79, n79⟩, -, X79, ⟨Lc79, hQ79, l79, y79, z79⟩, st79⟩ := Jvm.LawKit.callS X74 hx (y := y_7) hown (mvT hZ (own_w hw 52 rfl)) (mvT hZ (own_w hw 53 rfl)) (mvT hZ (own_w hw 54 rfl)) (mvT hZ (own_w hw 55 rfl)) (by decide) (backOf (W := 1) (rm9_0 l Z a0 hw [] b7 k k7 q2 q3 (T68.heap) n0 Z69 F77 (own_k64 h_k).2) hZ (own_w hw 55 rfl) (own_w hw 54 rfl) (by decide) (by decide)) (g := (mkF m 125 #[vi p1, vj q2, .second, vj q3, .second, vj q4, .second, vj q5, .second, vi p6, vi (1 : Int32), vi (0 : Int32), vr b7, vr b19, vi k, vr b33, vi (0 : Int32), vi (0 : Int32)] [(.int k), (.ref b7), (.int (f8_1_0_0 k q2 w0_68))])) rfl (by rw [hml]; rfl) (argsL := [(.ref b7), (.int k)]) (rest := [(.int (f8_1_0_0 k q2 w0_68))]) (lenOf pd0_3 rfl) rfl (by show 2 * 0 + _ ≤ _; exact Nat.le_of_eq rfl) (hb hby at_125) (fun _ _ => ⟨rfl, eh74, (by decide : 6 + 0 ≤ _), (by decide : 73 + 0 ≤ _)⟩)
        dsimp only [Pt.U, Pt.locs, Pt.cells, Pt.slots] at X79 l79 y79 z79 st79 hQ79
        subst l79 y79 z79
        obtain ⟨rfl, Nq79, eh79⟩ := hQ79
        have N79 := Fr.app N74 Nq79
        have go80 : Go p e below s₁ F0 T79 (mkF m 128 #[vi p1, vj q2, .second, vj q3, .second, vj q4, .second, vj q5, .second, vi p6, vi (1 : Int32), vi (0 : Int32), vr b7, vr b19, vi k, vr b33, vi (0 : Int32), vi (0 : Int32)] [(.int (f9_0 k q2 q3)), (.int (f8_1_0_0 k q2 w0_68))]) := fun t_ k_ => go78 t_ (st79 t_ k_)
        have hd81 : (f8_1_0_0 k q2 w0_68) = (f9_0 k q2 q3) := own_bit _ _
        have go82 : Go p e below s₁ F0 T79 (mkF m 137 #[vi p1, vj q2, .second, vj q3, .second, vj q4, .second, vj q5, .second, vi p6, vi (1 : Int32), vi (0 : Int32), vr b7, vr b19, vi k, vr b33, vi (0 : Int32), vi (0 : Int32)] [(.int k), (.int (0 : Int32)), (.ref b33)]) := by
          intro t_ k_
          refine go80 t_ ?_
          refine o_icmpNo X79 hx (hb hby at_128) (teq hd81).2 ?_
          refine o_aload X79 hx (hb hby at_131) rfl rfl ?_
          refine o_iload X79 hx (hb hby at_133) rfl ?_
          refine o_iload X79 hx (hb hby at_135) rfl ?_
          exact k_
        obtain ⟨cq83, kq83, q83a, q83b, q83c⟩ := isOf hZ eh79 F75
        obtain ⟨_, _, ⟨T83, L83, k83, n83⟩, -, X83, ⟨Lc83, hQ83, l83, y83, z83⟩, st83⟩ := X79.virtualBack hx (y := y_6) (z := y_6) hown (mvT hZ (own_w hw 47 rfl)) (mvT hZ (own_w hw 48 rfl)) (notFace_of_selects (args := #[]) (mvT hZ (own_w hw 50 rfl))) (mvT hZ (own_w hw 50 rfl)) (mvT hZ (own_w hw 49 rfl)) (by decide) (backOf (W := 0) (rm8_1_0_0 l Z a0 hw [] b33 k bw_45 kw_45 q2 w0_68 (T68.heap) n0 Z69 Fwi_68 Fwo_68 Vw_68 (own_d0 (own_k64 h_k).1 (own_k64 h_k).2)) hZ (own_w hw 51 rfl) (own_w hw 4 rfl) (by decide) (by decide)) q83a q83c (g := (mkF m 137 #[vi p1, vj q2, .second, vj q3, .second, vj q4, .second, vj q5, .second, vi p6, vi (1 : Int32), vi (0 : Int32), vr b7, vr b19, vi k, vr b33, vi (0 : Int32), vi (0 : Int32)] [(.int k), (.int (0 : Int32)), (.ref b33)])) rfl (by rw [hml]; rfl) (Steps.refl _) (argsL := [(.int (0 : Int32)), (.int k)]) (rest := []) (lenOf pd0_2 rfl) rfl (by show 2 * 0 + _ ≤ _; exact Nat.le_of_eq rfl) (hb hby at_137) (fun _ _ => ⟨rfl, eh79, (by decide : 6 + 0 ≤ _), (by decide : 73 + 0 ≤ _)⟩)
        dsimp only [Pt.U, Pt.locs, Pt.cells, Pt.slots] at X83 l83 y83 z83 st83 hQ83
        subst l83 y83 z83
        obtain ⟨rfl, Nq83, eh83⟩ := hQ83
        have N83 := Fr.app N79 Nq83
        have go84 : Go p e below s₁ F0 T83 (mkF m 140 #[vi p1, vj q2, .second, vj q3, .second, vj q4, .second, vj q5, .second, vi p6, vi (1 : Int32), vi (0 : Int32), vr b7, vr b19, vi k, vr b33, vi (0 : Int32), vi (0 : Int32)] [(.int (f8_1_0_0 k q2 w0_68))]) := fun t_ k_ => go82 t_ (st83.trans k_)
        have F85 : Arv Z T68.heap b19 k19 .long (2 : Int32) [(.long q4), (.long q5)] (.long (0 : Int64)) := (F66.keep Kc68 (ninS ne36 (ninS ne49 (ninS ne52 (ninS ne55 nin0)))))
        have go86 : Go p e below s₁ F0 T83 (mkF m 144 #[vi p1, vj q2, .second, vj q3, .second, vj q4, .second, vj q5, .second, vi p6, vi (1 : Int32), vi (0 : Int32), vr b7, vr b19, vi k, vr b33, vi (0 : Int32), vi (0 : Int32)] [(.int k), (.ref b19), (.int (f8_1_0_0 k q2 w0_68))]) := by
          intro t_ k_
          refine go84 t_ ?_
          refine o_aload X83 hx (hb hby at_140) rfl rfl ?_
          refine o_iload X83 hx (hb hby at_142) rfl ?_
          exact k_
        obtain ⟨_, _, ⟨T87, L87, k87, n87⟩, -, X87, ⟨Lc87, hQ87, l87, y87, z87⟩, st87⟩ := Jvm.LawKit.callS X83 hx (y := y_7) hown (mvT hZ (own_w hw 52 rfl)) (mvT hZ (own_w hw 53 rfl)) (mvT hZ (own_w hw 54 rfl)) (mvT hZ (own_w hw 55 rfl)) (by decide) (backOf (W := 1) (rm9_0 l Z a0 hw [] b19 k k19 q4 q5 (T68.heap) n0 Z69 F85 (own_k64 h_k).2) hZ (own_w hw 55 rfl) (own_w hw 54 rfl) (by decide) (by decide)) (g := (mkF m 144 #[vi p1, vj q2, .second, vj q3, .second, vj q4, .second, vj q5, .second, vi p6, vi (1 : Int32), vi (0 : Int32), vr b7, vr b19, vi k, vr b33, vi (0 : Int32), vi (0 : Int32)] [(.int k), (.ref b19), (.int (f8_1_0_0 k q2 w0_68))])) rfl (by rw [hml]; rfl) (argsL := [(.ref b19), (.int k)]) (rest := [(.int (f8_1_0_0 k q2 w0_68))]) (lenOf pd0_3 rfl) rfl (by show 2 * 0 + _ ≤ _; exact Nat.le_of_eq rfl) (hb hby at_144) (fun _ _ => ⟨rfl, eh83, (by decide : 6 + 0 ≤ _), (by decide : 73 + 0 ≤ _)⟩)
        dsimp only [Pt.U, Pt.locs, Pt.cells, Pt.slots] at X87 l87 y87 z87 st87 hQ87
        subst l87 y87 z87
        obtain ⟨rfl, Nq87, eh87⟩ := hQ87
        have N87 := Fr.app N83 Nq87
        have go88 : Go p e below s₁ F0 T87 (mkF m 147 #[vi p1, vj q2, .second, vj q3, .second, vj q4, .second, vj q5, .second, vi p6, vi (1 : Int32), vi (0 : Int32), vr b7, vr b19, vi k, vr b33, vi (0 : Int32), vi (0 : Int32)] [(.int (f9_0 k q4 q5)), (.int (f8_1_0_0 k q2 w0_68))]) := fun t_ k_ => go86 t_ (st87 t_ k_)
        have hd89 : (f8_1_0_0 k q2 w0_68) = (f9_0 k q4 q5) := (by rw [← (own_l hP_68 hcs71)]; exact own_bit _ _)
        have go90 : Go p e below s₁ F0 T87 (mkF m 155 #[vi p1, vj q2, .second, vj q3, .second, vj q4, .second, vj q5, .second, vi p6, vi (1 : Int32), vi (0 : Int32), vr b7, vr b19, vi k, vr b33, vi (0 : Int32), vi (0 : Int32)] [(.int (1 : Int32))]) := by
          intro t_ k_
          refine go88 t_ ?_
          refine o_icmpNo X87 hx (hb hby at_147) (teq hd89).2 ?_
          refine o_iconst X87 hx (hb hby at_150) (v := 1) rfl ?_
          refine o_goto X87 hx (hb hby at_151) (pc' := 155) rfl (by decide) ?_
          exact k_
        obtain ⟨fs, hr, hrun, hended, hW, hsame⟩ := X87.leave (v := some (.int (1 : Int32))) (fun h => by rw [Bd.returns] at h; cases h)
        refine ⟨_, _, pre0 _ (go90 _ ?_), hrun, hended, _, _, rfl, ?_, ⟨_, rfl⟩, hW, hsame.mono (by decide) (by decide)⟩
        · skip
          exact retN X87 hx (t := .boolean) Bd.returns (by simp) (hb hby at_155) hr
        · show Q0 Z p1 q2 q3 q4 q5 p6 h0 n0 _ T87.heap _
          rw [eh87]
          exact ⟨rfl, N87⟩
      · skip
        have go91 : Go p e below s₁ F0 T68 (mkF m 110 #[vi p1, vj q2, .second, vj q3, .second, vj q4, .second, vj q5, .second, vi p6, vi (1 : Int32), vi (0 : Int32), vr b7, vr b19, vi k, vr b33, vi (0 : Int32), .unset] [(.int (1 : Int32))]) := by rw [hcs71] at go70; exact go70
        have go92 : Go p e below s₁ F0 T68 (mkF m 118 #[vi p1, vj q2, .second, vj q3, .second, vj q4, .second, vj q5, .second, vi p6, vi (1 : Int32), vi (0 : Int32), vr b7, vr b19, vi k, vr b33, vi (0 : Int32), vi (1 : Int32)] [(.int k), (.int (0 : Int32)), (.ref b33)]) := by
          intro t_ k_
          refine go91 t_ ?_
          refine o_istore X68 hx (hb hby at_110) (L' := #[vi p1, vj q2, .second, vj q3, .second, vj q4, .second, vj q5, .second, vi p6, vi (1 : Int32), vi (0 : Int32), vr b7, vr b19, vi k, vr b33, vi (0 : Int32), vi (1 : Int32)]) rfl ?_
          refine o_aload X68 hx (hb hby at_112) rfl rfl ?_
          refine o_iload X68 hx (hb hby at_114) rfl ?_
          refine o_iload X68 hx (hb hby at_116) rfl ?_
          exact k_
        have F94 : Exa Z T68.heap b33 c_0 := (F65.keep Kc68)
        obtain ⟨cq93, kq93, q93a, q93b, q93c⟩ := isOf hZ rfl F94
        obtain ⟨_, _, ⟨T93, L93, k93, n93⟩, -, X93, ⟨Lc93, hQ93, l93, y93, z93⟩, st93⟩ := X68.virtualBack hx (y := y_6) (z := y_6) hown (mvT hZ (own_w hw 47 rfl)) (mvT hZ (own_w hw 48 rfl)) (notFace_of_selects (args := #[]) (mvT hZ (own_w hw 50 rfl))) (mvT hZ (own_w hw 50 rfl)) (mvT hZ (own_w hw 49 rfl)) (by decide) (backOf (W := 0) (rm8_1_0_0 l Z a0 hw [] b33 k bw_45 kw_45 q2 w0_68 (T68.heap) n0 Z69 Fwi_68 Fwo_68 Vw_68 (own_d0 (own_k64 h_k).1 (own_k64 h_k).2)) hZ (own_w hw 51 rfl) (own_w hw 4 rfl) (by decide) (by decide)) q93a q93c (g := (mkF m 118 #[vi p1, vj q2, .second, vj q3, .second, vj q4, .second, vj q5, .second, vi p6, vi (1 : Int32), vi (0 : Int32), vr b7, vr b19, vi k, vr b33, vi (0 : Int32), vi (1 : Int32)] [(.int k), (.int (0 : Int32)), (.ref b33)])) rfl (by rw [hml]; rfl) (Steps.refl _) (argsL := [(.int (0 : Int32)), (.int k)]) (rest := []) (lenOf pd0_2 rfl) rfl (by show 2 * 0 + _ ≤ _; exact Nat.le_of_eq rfl) (hb hby at_118) (fun _ _ => ⟨rfl, rfl, (by decide : 6 + 0 ≤ _), (by decide : 73 + 0 ≤ _)⟩)
        dsimp only [Pt.U, Pt.locs, Pt.cells, Pt.slots] at X93 l93 y93 z93 st93 hQ93
        subst l93 y93 z93
        obtain ⟨rfl, Nq93, eh93⟩ := hQ93
        have N93 := Fr.app N68 Nq93
        have go95 : Go p e below s₁ F0 T93 (mkF m 121 #[vi p1, vj q2, .second, vj q3, .second, vj q4, .second, vj q5, .second, vi p6, vi (1 : Int32), vi (0 : Int32), vr b7, vr b19, vi k, vr b33, vi (0 : Int32), vi (1 : Int32)] [(.int (f8_1_0_0 k q2 w0_68))]) := fun t_ k_ => go92 t_ (st93.trans k_)
        have F96 : Arv Z T68.heap b7 k7 .long (2 : Int32) [(.long q2), (.long q3)] (.long (0 : Int64)) := ((F60.keep Kc62 (ninS ne35 (ninS ne47 (ninS ne51 (ninS ne54 nin0))))).keep Kc68 (ninS ne35 (ninS ne47 (ninS ne51 (ninS ne54 nin0)))))
        have go97 : Go p e below s₁ F0 T93 (mkF m 125 #[vi p1, vj q2, .second, vj q3, .second, vj q4, .second, vj q5, .second, vi p6, vi (1 : Int32), vi (0 : Int32), vr b7, vr b19, vi k, vr b33, vi (0 : Int32), vi (1 : Int32)] [(.int k), (.ref b7), (.int (f8_1_0_0 k q2 w0_68))]) := by
          intro t_ k_
          refine go95 t_ ?_
          refine o_aload X93 hx (hb hby at_121) rfl rfl ?_
          refine o_iload X93 hx (hb hby at_123) rfl ?_
          exact k_
        obtain ⟨_, _, ⟨T98, L98, k98, n98⟩, -, X98, ⟨Lc98, hQ98, l98, y98, z98⟩, st98⟩ := Jvm.LawKit.callS X93 hx (y := y_7) hown (mvT hZ (own_w hw 52 rfl)) (mvT hZ (own_w hw 53 rfl)) (mvT hZ (own_w hw 54 rfl)) (mvT hZ (own_w hw 55 rfl)) (by decide) (backOf (W := 1) (rm9_0 l Z a0 hw [] b7 k k7 q2 q3 (T68.heap) n0 Z69 F96 (own_k64 h_k).2) hZ (own_w hw 55 rfl) (own_w hw 54 rfl) (by decide) (by decide)) (g := (mkF m 125 #[vi p1, vj q2, .second, vj q3, .second, vj q4, .second, vj q5, .second, vi p6, vi (1 : Int32), vi (0 : Int32), vr b7, vr b19, vi k, vr b33, vi (0 : Int32), vi (1 : Int32)] [(.int k), (.ref b7), (.int (f8_1_0_0 k q2 w0_68))])) rfl (by rw [hml]; rfl) (argsL := [(.ref b7), (.int k)]) (rest := [(.int (f8_1_0_0 k q2 w0_68))]) (lenOf pd0_3 rfl) rfl (by show 2 * 0 + _ ≤ _; exact Nat.le_of_eq rfl) (hb hby at_125) (fun _ _ => ⟨rfl, eh93, (by decide : 6 + 0 ≤ _), (by decide : 73 + 0 ≤ _)⟩)
        dsimp only [Pt.U, Pt.locs, Pt.cells, Pt.slots] at X98 l98 y98 z98 st98 hQ98
        subst l98 y98 z98
        obtain ⟨rfl, Nq98, eh98⟩ := hQ98
        have N98 := Fr.app N93 Nq98
        have go99 : Go p e below s₁ F0 T98 (mkF m 128 #[vi p1, vj q2, .second, vj q3, .second, vj q4, .second, vj q5, .second, vi p6, vi (1 : Int32), vi (0 : Int32), vr b7, vr b19, vi k, vr b33, vi (0 : Int32), vi (1 : Int32)] [(.int (f9_0 k q2 q3)), (.int (f8_1_0_0 k q2 w0_68))]) := fun t_ k_ => go97 t_ (st98 t_ k_)
        have hd100 : (f8_1_0_0 k q2 w0_68) = (f9_0 k q2 q3) := own_bit _ _
        have go101 : Go p e below s₁ F0 T98 (mkF m 137 #[vi p1, vj q2, .second, vj q3, .second, vj q4, .second, vj q5, .second, vi p6, vi (1 : Int32), vi (0 : Int32), vr b7, vr b19, vi k, vr b33, vi (0 : Int32), vi (1 : Int32)] [(.int k), (.int (1 : Int32)), (.ref b33)]) := by
          intro t_ k_
          refine go99 t_ ?_
          refine o_icmpNo X98 hx (hb hby at_128) (teq hd100).2 ?_
          refine o_aload X98 hx (hb hby at_131) rfl rfl ?_
          refine o_iload X98 hx (hb hby at_133) rfl ?_
          refine o_iload X98 hx (hb hby at_135) rfl ?_
          exact k_
        obtain ⟨cq102, kq102, q102a, q102b, q102c⟩ := isOf hZ eh98 F94
        obtain ⟨_, _, ⟨T102, L102, k102, n102⟩, -, X102, ⟨Lc102, hQ102, l102, y102, z102⟩, st102⟩ := X98.virtualBack hx (y := y_6) (z := y_6) hown (mvT hZ (own_w hw 47 rfl)) (mvT hZ (own_w hw 48 rfl)) (notFace_of_selects (args := #[]) (mvT hZ (own_w hw 50 rfl))) (mvT hZ (own_w hw 50 rfl)) (mvT hZ (own_w hw 49 rfl)) (by decide) (backOf (W := 0) (rm8_1_1_0 l Z a0 hw [] b33 k bw_45 kw_45 q2 w0_68 (T68.heap) n0 Z69 Fwi_68 Fwo_68 Vw_68 (own_d0 (own_k64 h_k).1 (own_k64 h_k).2)) hZ (own_w hw 51 rfl) (own_w hw 4 rfl) (by decide) (by decide)) q102a q102c (g := (mkF m 137 #[vi p1, vj q2, .second, vj q3, .second, vj q4, .second, vj q5, .second, vi p6, vi (1 : Int32), vi (0 : Int32), vr b7, vr b19, vi k, vr b33, vi (0 : Int32), vi (1 : Int32)] [(.int k), (.int (1 : Int32)), (.ref b33)])) rfl (by rw [hml]; rfl) (Steps.refl _) (argsL := [(.int (1 : Int32)), (.int k)]) (rest := []) (lenOf pd0_2 rfl) rfl (by show 2 * 0 + _ ≤ _; exact Nat.le_of_eq rfl) (hb hby at_137) (fun _ _ => ⟨rfl, eh98, (by decide : 6 + 0 ≤ _), (by decide : 73 + 0 ≤ _)⟩)
        dsimp only [Pt.U, Pt.locs, Pt.cells, Pt.slots] at X102 l102 y102 z102 st102 hQ102
        subst l102 y102 z102
        obtain ⟨rfl, Nq102, eh102⟩ := hQ102
        have N102 := Fr.app N98 Nq102
        have go103 : Go p e below s₁ F0 T102 (mkF m 140 #[vi p1, vj q2, .second, vj q3, .second, vj q4, .second, vj q5, .second, vi p6, vi (1 : Int32), vi (0 : Int32), vr b7, vr b19, vi k, vr b33, vi (0 : Int32), vi (1 : Int32)] [(.int (f8_1_1_0 k q2 w0_68))]) := fun t_ k_ => go101 t_ (st102.trans k_)
        have F104 : Arv Z T68.heap b19 k19 .long (2 : Int32) [(.long q4), (.long q5)] (.long (0 : Int64)) := (F66.keep Kc68 (ninS ne36 (ninS ne49 (ninS ne52 (ninS ne55 nin0)))))
        have go105 : Go p e below s₁ F0 T102 (mkF m 144 #[vi p1, vj q2, .second, vj q3, .second, vj q4, .second, vj q5, .second, vi p6, vi (1 : Int32), vi (0 : Int32), vr b7, vr b19, vi k, vr b33, vi (0 : Int32), vi (1 : Int32)] [(.int k), (.ref b19), (.int (f8_1_1_0 k q2 w0_68))]) := by
          intro t_ k_
          refine go103 t_ ?_
          refine o_aload X102 hx (hb hby at_140) rfl rfl ?_
          refine o_iload X102 hx (hb hby at_142) rfl ?_
          exact k_
        obtain ⟨_, _, ⟨T106, L106, k106, n106⟩, -, X106, ⟨Lc106, hQ106, l106, y106, z106⟩, st106⟩ := Jvm.LawKit.callS X102 hx (y := y_7) hown (mvT hZ (own_w hw 52 rfl)) (mvT hZ (own_w hw 53 rfl)) (mvT hZ (own_w hw 54 rfl)) (mvT hZ (own_w hw 55 rfl)) (by decide) (backOf (W := 1) (rm9_0 l Z a0 hw [] b19 k k19 q4 q5 (T68.heap) n0 Z69 F104 (own_k64 h_k).2) hZ (own_w hw 55 rfl) (own_w hw 54 rfl) (by decide) (by decide)) (g := (mkF m 144 #[vi p1, vj q2, .second, vj q3, .second, vj q4, .second, vj q5, .second, vi p6, vi (1 : Int32), vi (0 : Int32), vr b7, vr b19, vi k, vr b33, vi (0 : Int32), vi (1 : Int32)] [(.int k), (.ref b19), (.int (f8_1_1_0 k q2 w0_68))])) rfl (by rw [hml]; rfl) (argsL := [(.ref b19), (.int k)]) (rest := [(.int (f8_1_1_0 k q2 w0_68))]) (lenOf pd0_3 rfl) rfl (by show 2 * 0 + _ ≤ _; exact Nat.le_of_eq rfl) (hb hby at_144) (fun _ _ => ⟨rfl, eh102, (by decide : 6 + 0 ≤ _), (by decide : 73 + 0 ≤ _)⟩)
        dsimp only [Pt.U, Pt.locs, Pt.cells, Pt.slots] at X106 l106 y106 z106 st106 hQ106
        subst l106 y106 z106
        obtain ⟨rfl, Nq106, eh106⟩ := hQ106
        have N106 := Fr.app N102 Nq106
        have go107 : Go p e below s₁ F0 T106 (mkF m 147 #[vi p1, vj q2, .second, vj q3, .second, vj q4, .second, vj q5, .second, vi p6, vi (1 : Int32), vi (0 : Int32), vr b7, vr b19, vi k, vr b33, vi (0 : Int32), vi (1 : Int32)] [(.int (f9_0 k q4 q5)), (.int (f8_1_1_0 k q2 w0_68))]) := fun t_ k_ => go105 t_ (st106 t_ k_)
        have hd108 : (f8_1_1_0 k q2 w0_68) = (f9_0 k q4 q5) := (by rw [(own_r hP_68 hcs71).2]; exact own_bit _ _)
        have go109 : Go p e below s₁ F0 T106 (mkF m 155 #[vi p1, vj q2, .second, vj q3, .second, vj q4, .second, vj q5, .second, vi p6, vi (1 : Int32), vi (0 : Int32), vr b7, vr b19, vi k, vr b33, vi (0 : Int32), vi (1 : Int32)] [(.int (1 : Int32))]) := by
          intro t_ k_
          refine go107 t_ ?_
          refine o_icmpNo X106 hx (hb hby at_147) (teq hd108).2 ?_
          refine o_iconst X106 hx (hb hby at_150) (v := 1) rfl ?_
          refine o_goto X106 hx (hb hby at_151) (pc' := 155) rfl (by decide) ?_
          exact k_
        obtain ⟨fs, hr, hrun, hended, hW, hsame⟩ := X106.leave (v := some (.int (1 : Int32))) (fun h => by rw [Bd.returns] at h; cases h)
        refine ⟨_, _, pre0 _ (go109 _ ?_), hrun, hended, _, _, rfl, ?_, ⟨_, rfl⟩, hW, hsame.mono (by decide) (by decide)⟩
        · skip
          exact retN X106 hx (t := .boolean) Bd.returns (by simp) (hb hby at_155) hr
        · show Q0 Z p1 q2 q3 q4 q5 p6 h0 n0 _ T106.heap _
          rw [eh106]
          exact ⟨rfl, N106⟩
    · skip
      have go110 : Go p e below s₁ F0 s₁ (mkF m 21 #[vi p1, vj q2, .second, vj q3, .second, vj q4, .second, vj q5, .second, vi p6, vi (1 : Int32), vi (1 : Int32), .unset, .unset, .unset, .unset, .unset, .unset] [(.int (2 : Int32))]) := by
        intro t_ k_
        refine go4 t_ ?_
        refine o_ifNo X0 hx (hb hby at_10) ((if0 _ _).trans (feq hc10_5).1) ?_
        refine o_iconst X0 hx (hb hby at_13) (v := 1) rfl ?_
        refine o_goto X0 hx (hb hby at_14) (pc' := 18) rfl (by decide) ?_
        refine o_istore X0 hx (hb hby at_18) (L' := #[vi p1, vj q2, .second, vj q3, .second, vj q4, .second, vj q5, .second, vi p6, vi (1 : Int32), vi (1 : Int32), .unset, .unset, .unset, .unset, .unset, .unset]) rfl ?_
        refine o_iconst X0 hx (hb hby at_20) (v := 2) rfl ?_
        exact k_
      obtain ⟨T111, h111, k111, X111, e111, E111, A111, st111⟩ := newP X0 hx hZ (own_w hw 0 rfl) e0 (g := (mkF m 21 #[vi p1, vj q2, .second, vj q3, .second, vj q4, .second, vj q5, .second, vi p6, vi (1 : Int32), vi (1 : Int32), .unset, .unset, .unset, .unset, .unset, .unset] [(.int (2 : Int32))])) rfl (hb hby at_21) rfl (by decide) (cap := 2) (by decide) (by decide) (by decide) (by decide)
      obtain ⟨b111, gz111⟩ : ∃ z, z = h0.size := ⟨_, rfl⟩
      rw [← gz111] at A111 st111
      have g_b111 : n0 ≤ b111 := Nat.le_trans Z0 (Nat.le_of_eq gz111.symm)
      have Z112 : n0 ≤ h111.size := Nat.le_trans Z0 E111.1
      have V111 : Arv Z h111 b111 k111 .long (2 : Int32) [(.long (0 : Int64)), (.long (0 : Int64))] (.long (0 : Int64)) := (Arv.new A111 (by decide)).pad (pad_rep [] (.long (0 : Int64)) 2)
      have go113 : Go p e below s₁ F0 T111 (mkF m 23 #[vi p1, vj q2, .second, vj q3, .second, vj q4, .second, vj q5, .second, vi p6, vi (1 : Int32), vi (1 : Int32), .unset, .unset, .unset, .unset, .unset, .unset] [(.ref b111)]) := fun t_ k_ => go110 t_ (st111 t_ k_)
      have go114 : Go p e below s₁ F0 T111 (mkF m 29 #[vi p1, vj q2, .second, vj q3, .second, vj q4, .second, vj q5, .second, vi p6, vi (1 : Int32), vi (1 : Int32), vr b111, .unset, .unset, .unset, .unset, .unset] [(.long q2), (.int (0 : Int32)), (.ref b111)]) := by
        intro t_ k_
        refine go113 t_ ?_
        refine o_astore X111 hx (hb hby at_23) rfl (L' := #[vi p1, vj q2, .second, vj q3, .second, vj q4, .second, vj q5, .second, vi p6, vi (1 : Int32), vi (1 : Int32), vr b111, .unset, .unset, .unset, .unset, .unset]) rfl ?_
        refine o_aload X111 hx (hb hby at_25) rfl rfl ?_
        refine o_iconst X111 hx (hb hby at_27) (v := 0) rfl ?_
        refine o_lloadN X111 hx (hb hby at_28) rfl ?_
        exact k_
      obtain ⟨cl115, Ar115, q115, Sz115, Nn115, Hs115, G115⟩ := id V111
      have hin115 : ¬ ((0 : Int32) < 0 ∨ cl115.slots.size ≤ ((0 : Int32)).toNatClampNeg) := inb_of Sz115 ⟨by decide, by decide⟩
      obtain ⟨T115, h115, X115, e115, W115, st115⟩ := stJ X111 hx hZ e111 Ar115 (j := (0 : Int32)) hin115 (g := (mkF m 29 #[vi p1, vj q2, .second, vj q3, .second, vj q4, .second, vj q5, .second, vi p6, vi (1 : Int32), vi (1 : Int32), vr b111, .unset, .unset, .unset, .unset, .unset] [(.long q2), (.int (0 : Int32)), (.ref b111)])) rfl rfl (hb hby at_29)
      have V115 : Arv Z h115 b111 k111 .long (2 : Int32) [(.long q2), (.long (0 : Int64))] (.long (0 : Int64)) := Arv.set Ar115 q115 Sz115 Nn115 Hs115 G115 rfl W115 0 rfl (Nat.le_of_ble_eq_true rfl)
      have Z116 : n0 ≤ h115.size := Nat.le_trans Z112 (Keep.of_wr W115).1
      have N115 := Fr.snoc X115 N0 g_b111
      have go117 : Go p e below s₁ F0 T115 (mkF m 30 #[vi p1, vj q2, .second, vj q3, .second, vj q4, .second, vj q5, .second, vi p6, vi (1 : Int32), vi (1 : Int32), vr b111, .unset, .unset, .unset, .unset, .unset] []) := fun t_ k_ => go114 t_ (st115 t_ k_)
      have go118 : Go p e below s₁ F0 T115 (mkF m 34 #[vi p1, vj q2, .second, vj q3, .second, vj q4, .second, vj q5, .second, vi p6, vi (1 : Int32), vi (1 : Int32), vr b111, .unset, .unset, .unset, .unset, .unset] [(.long q3), (.int (1 : Int32)), (.ref b111)]) := by
        intro t_ k_
        refine go117 t_ ?_
        refine o_aload X115 hx (hb hby at_30) rfl rfl ?_
        refine o_iconst X115 hx (hb hby at_32) (v := 1) rfl ?_
        refine o_lloadN X115 hx (hb hby at_33) rfl ?_
        exact k_
      obtain ⟨cl119, Ar119, q119, Sz119, Nn119, Hs119, G119⟩ := id V115
      have hin119 : ¬ ((1 : Int32) < 0 ∨ cl119.slots.size ≤ ((1 : Int32)).toNatClampNeg) := inb_of Sz119 ⟨by decide, by decide⟩
      obtain ⟨T119, h119, X119, e119, W119, st119⟩ := stJ X115 hx hZ e115 Ar119 (j := (1 : Int32)) hin119 (g := (mkF m 34 #[vi p1, vj q2, .second, vj q3, .second, vj q4, .second, vj q5, .second, vi p6, vi (1 : Int32), vi (1 : Int32), vr b111, .unset, .unset, .unset, .unset, .unset] [(.long q3), (.int (1 : Int32)), (.ref b111)])) rfl rfl (hb hby at_34)
      have V119 : Arv Z h119 b111 k111 .long (2 : Int32) [(.long q2), (.long q3)] (.long (0 : Int64)) := Arv.set Ar119 q119 Sz119 Nn119 Hs119 G119 rfl W119 1 rfl (Nat.le_of_ble_eq_true rfl)
      have Z120 : n0 ≤ h119.size := Nat.le_trans Z116 (Keep.of_wr W119).1
      have N119 := Fr.snoc X119 N115 g_b111
      have go121 : Go p e below s₁ F0 T119 (mkF m 35 #[vi p1, vj q2, .second, vj q3, .second, vj q4, .second, vj q5, .second, vi p6, vi (1 : Int32), vi (1 : Int32), vr b111, .unset, .unset, .unset, .unset, .unset] []) := fun t_ k_ => go118 t_ (st119 t_ k_)
      have go122 : Go p e below s₁ F0 T119 (mkF m 36 #[vi p1, vj q2, .second, vj q3, .second, vj q4, .second, vj q5, .second, vi p6, vi (1 : Int32), vi (1 : Int32), vr b111, .unset, .unset, .unset, .unset, .unset] [(.int (2 : Int32))]) := by
        intro t_ k_
        refine go121 t_ ?_
        refine o_iconst X119 hx (hb hby at_35) (v := 2) rfl ?_
        exact k_
      obtain ⟨T123, h123, k123, X123, e123, E123, A123, st123⟩ := newP X119 hx hZ (own_w hw 0 rfl) e119 (g := (mkF m 36 #[vi p1, vj q2, .second, vj q3, .second, vj q4, .second, vj q5, .second, vi p6, vi (1 : Int32), vi (1 : Int32), vr b111, .unset, .unset, .unset, .unset, .unset] [(.int (2 : Int32))])) rfl (hb hby at_36) rfl (by decide) (cap := 2) (by decide) (by decide) (by decide) (by decide)
      obtain ⟨b123, gz123⟩ : ∃ z, z = h119.size := ⟨_, rfl⟩
      rw [← gz123] at A123 st123
      have ne124 : b111 ≠ b123 := Nat.ne_of_lt (Nat.lt_of_lt_of_le V119.lt (Nat.le_of_eq gz123.symm))
      have g_b123 : n0 ≤ b123 := Nat.le_trans Z120 (Nat.le_of_eq gz123.symm)
      have Z125 : n0 ≤ h123.size := Nat.le_trans Z120 E123.1
      have V123 : Arv Z h123 b123 k123 .long (2 : Int32) [(.long (0 : Int64)), (.long (0 : Int64))] (.long (0 : Int64)) := (Arv.new A123 (by decide)).pad (pad_rep [] (.long (0 : Int64)) 2)
      have go126 : Go p e below s₁ F0 T123 (mkF m 38 #[vi p1, vj q2, .second, vj q3, .second, vj q4, .second, vj q5, .second, vi p6, vi (1 : Int32), vi (1 : Int32), vr b111, .unset, .unset, .unset, .unset, .unset] [(.ref b123)]) := fun t_ k_ => go122 t_ (st123 t_ k_)
      have go127 : Go p e below s₁ F0 T123 (mkF m 49 #[vi p1, vj q2, .second, vj q3, .second, vj q4, .second, vj q5, .second, vi p6, vi (1 : Int32), vi (1 : Int32), vr b111, vr b123, .unset, .unset, .unset, .unset] [(.long q2), (.int (0 : Int32)), (.ref b123)]) := by
        intro t_ k_
        refine go126 t_ ?_
        refine o_astore X123 hx (hb hby at_38) rfl (L' := #[vi p1, vj q2, .second, vj q3, .second, vj q4, .second, vj q5, .second, vi p6, vi (1 : Int32), vi (1 : Int32), vr b111, vr b123, .unset, .unset, .unset, .unset]) rfl ?_
        refine o_iload X123 hx (hb hby at_40) rfl ?_
        refine o_ifNo X123 hx (hb hby at_42) ((if0 _ _).trans (feq (by decide : ¬ ((1 : Int32) = (0 : Int32)))).1) ?_
        refine o_aload X123 hx (hb hby at_45) rfl rfl ?_
        refine o_iconst X123 hx (hb hby at_47) (v := 0) rfl ?_
        refine o_lloadN X123 hx (hb hby at_48) rfl ?_
        exact k_
      obtain ⟨cl128, Ar128, q128, Sz128, Nn128, Hs128, G128⟩ := id V123
      have hin128 : ¬ ((0 : Int32) < 0 ∨ cl128.slots.size ≤ ((0 : Int32)).toNatClampNeg) := inb_of Sz128 ⟨by decide, by decide⟩
      obtain ⟨T128, h128, X128, e128, W128, st128⟩ := stJ X123 hx hZ e123 Ar128 (j := (0 : Int32)) hin128 (g := (mkF m 49 #[vi p1, vj q2, .second, vj q3, .second, vj q4, .second, vj q5, .second, vi p6, vi (1 : Int32), vi (1 : Int32), vr b111, vr b123, .unset, .unset, .unset, .unset] [(.long q2), (.int (0 : Int32)), (.ref b123)])) rfl rfl (hb hby at_49)
      have V128 : Arv Z h128 b123 k123 .long (2 : Int32) [(.long q2), (.long (0 : Int64))] (.long (0 : Int64)) := Arv.set Ar128 q128 Sz128 Nn128 Hs128 G128 rfl W128 0 rfl (Nat.le_of_ble_eq_true rfl)
      have Z129 : n0 ≤ h128.size := Nat.le_trans Z125 (Keep.of_wr W128).1
      have N128 := Fr.snoc X128 N119 g_b123
      have go130 : Go p e below s₁ F0 T128 (mkF m 50 #[vi p1, vj q2, .second, vj q3, .second, vj q4, .second, vj q5, .second, vi p6, vi (1 : Int32), vi (1 : Int32), vr b111, vr b123, .unset, .unset, .unset, .unset] []) := fun t_ k_ => go127 t_ (st128 t_ k_)
      have go131 : Go p e below s₁ F0 T128 (mkF m 54 #[vi p1, vj q2, .second, vj q3, .second, vj q4, .second, vj q5, .second, vi p6, vi (1 : Int32), vi (1 : Int32), vr b111, vr b123, .unset, .unset, .unset, .unset] [(.long q3), (.int (1 : Int32)), (.ref b123)]) := by
        intro t_ k_
        refine go130 t_ ?_
        refine o_aload X128 hx (hb hby at_50) rfl rfl ?_
        refine o_iconst X128 hx (hb hby at_52) (v := 1) rfl ?_
        refine o_lloadN X128 hx (hb hby at_53) rfl ?_
        exact k_
      obtain ⟨cl132, Ar132, q132, Sz132, Nn132, Hs132, G132⟩ := id V128
      have hin132 : ¬ ((1 : Int32) < 0 ∨ cl132.slots.size ≤ ((1 : Int32)).toNatClampNeg) := inb_of Sz132 ⟨by decide, by decide⟩
      obtain ⟨T132, h132, X132, e132, W132, st132⟩ := stJ X128 hx hZ e128 Ar132 (j := (1 : Int32)) hin132 (g := (mkF m 54 #[vi p1, vj q2, .second, vj q3, .second, vj q4, .second, vj q5, .second, vi p6, vi (1 : Int32), vi (1 : Int32), vr b111, vr b123, .unset, .unset, .unset, .unset] [(.long q3), (.int (1 : Int32)), (.ref b123)])) rfl rfl (hb hby at_54)
      have V132 : Arv Z h132 b123 k123 .long (2 : Int32) [(.long q2), (.long q3)] (.long (0 : Int64)) := Arv.set Ar132 q132 Sz132 Nn132 Hs132 G132 rfl W132 1 rfl (Nat.le_of_ble_eq_true rfl)
      have Z133 : n0 ≤ h132.size := Nat.le_trans Z129 (Keep.of_wr W132).1
      have N132 := Fr.snoc X132 N128 g_b123
      have go134 : Go p e below s₁ F0 T132 (mkF m 55 #[vi p1, vj q2, .second, vj q3, .second, vj q4, .second, vj q5, .second, vi p6, vi (1 : Int32), vi (1 : Int32), vr b111, vr b123, .unset, .unset, .unset, .unset] []) := fun t_ k_ => go131 t_ (st132 t_ k_)
      have go135 : Go p e below s₁ F0 T132 (mkF m 83 #[vi p1, vj q2, .second, vj q3, .second, vj q4, .second, vj q5, .second, vi p6, vi (1 : Int32), vi (1 : Int32), vr b111, vr b123, vi ((p6 &&& (2147483647 : Int32)) % (64 : Int32)), .unset, .unset, .unset] []) := by
        intro t_ k_
        refine go134 t_ ?_
        refine o_goto X132 hx (hb hby at_55) (pc' := 70) rfl (by decide) ?_
        refine o_iload X132 hx (hb hby at_70) rfl ?_
        refine o_ldc X132 hx hown (mvT hZ (own_w hw 1 rfl)) (hb hby at_72) ?_
        refine o_iand X132 hx (hb hby at_74) ?_
        refine o_bipush X132 hx (hb hby at_75) (v := 64) rfl ?_
        refine o_iload X132 hx (hb hby at_77) rfl ?_
        refine o_imulE X132 hx (hb hby at_79) (v := 64) rfl ?_
        refine o_irem X132 hx (hb hby at_80) (by decide) ?_
        refine o_istore X132 hx (hb hby at_81) (L' := #[vi p1, vj q2, .second, vj q3, .second, vj q4, .second, vj q5, .second, vi p6, vi (1 : Int32), vi (1 : Int32), vr b111, vr b123, vi ((p6 &&& (2147483647 : Int32)) % (64 : Int32)), .unset, .unset, .unset]) rfl ?_
        exact k_
      obtain ⟨k, h_k⟩ : ∃ z : Int32, z = ((p6 &&& (2147483647 : Int32)) % (64 : Int32)) := ⟨_, rfl⟩
      have go136 : Go p e below s₁ F0 T132 (mkF m 83 #[vi p1, vj q2, .second, vj q3, .second, vj q4, .second, vj q5, .second, vi p6, vi (1 : Int32), vi (1 : Int32), vr b111, vr b123, vi k, .unset, .unset, .unset] []) := by rw [h_k]; exact go135
      obtain ⟨T137, h137, X137, e137, E137, A137, D137, -, st137⟩ := newO X132 hx hZ hown (own_w hw 2 rfl) (own_w hw 3 rfl) (own_w hw 4 rfl) e132 (g := (mkF m 83 #[vi p1, vj q2, .second, vj q3, .second, vj q4, .second, vj q5, .second, vi p6, vi (1 : Int32), vi (1 : Int32), vr b111, vr b123, vi k, .unset, .unset, .unset] [])) rfl (hb hby at_83) (by decide) (by decide)
      obtain ⟨b137, gz137⟩ : ∃ z, z = h132.size := ⟨_, rfl⟩
      rw [← gz137] at A137 D137 st137
      have F138 : Arv Z h132 b111 k111 .long (2 : Int32) [(.long q2), (.long q3)] (.long (0 : Int64)) := (((V119.ext E123).other W128 ne124).other W132 ne124)
      have ne139 : b111 ≠ b137 := Nat.ne_of_lt (Nat.lt_of_lt_of_le F138.lt (Nat.le_of_eq gz137.symm))
      have ne140 : b123 ≠ b137 := Nat.ne_of_lt (Nat.lt_of_lt_of_le V132.lt (Nat.le_of_eq gz137.symm))
      have g_b137 : n0 ≤ b137 := Nat.le_trans Z133 (Nat.le_of_eq gz137.symm)
      have Z141 : n0 ≤ h137.size := Nat.le_trans Z133 E137.1
      have F142 : Fld Z h137 b137 c_0 "width" "I" (.int (0 : Int32)) := D137 (Or.inr (own_w hw 12 rfl)) (ty := .int) (by decide)
      have F143 : Fld Z h137 b137 c_0 "words" "[J" .null := D137 (Or.inl (own_w hw 14 rfl)) (ty := (.array .long)) (by decide)
      have F144 : Fld Z h137 b137 c_0 "hashes" "[I" .null := D137 (Or.inl (own_w hw 17 rfl)) (ty := (.array .int)) (by decide)
      have F145 : Fld Z h137 b137 c_0 "slots" "[I" .null := D137 (Or.inl (own_w hw 19 rfl)) (ty := (.array .int)) (by decide)
      have F146 : Fld Z h137 b137 c_0 "count" "I" (.int (0 : Int32)) := D137 (Or.inl (own_w hw 38 rfl)) (ty := .int) (by decide)
      have go147 : Go p e below s₁ F0 T137 (mkF m 86 #[vi p1, vj q2, .second, vj q3, .second, vj q4, .second, vj q5, .second, vi p6, vi (1 : Int32), vi (1 : Int32), vr b111, vr b123, vi k, .unset, .unset, .unset] [(.ref b137)]) := fun t_ k_ => go136 t_ (st137 t_ k_)
      have go148 : Go p e below s₁ F0 T137 (mkF m 89 #[vi p1, vj q2, .second, vj q3, .second, vj q4, .second, vj q5, .second, vi p6, vi (1 : Int32), vi (1 : Int32), vr b111, vr b123, vi k, .unset, .unset, .unset] [(.int (1 : Int32)), (.ref b137), (.ref b137)]) := by
        intro t_ k_
        refine go147 t_ ?_
        refine o_dup X137 hx (hb hby at_86) rfl ?_
        refine o_iload X137 hx (hb hby at_87) rfl ?_
        exact k_
      obtain ⟨_, _, ⟨T149, L149, k149, n149⟩, -, X149, ⟨Lc149, hQ149, l149, y149, z149⟩, st149⟩ := X137.specialBack hx (y := y_2) rfl hown (mvT hZ (own_w hw 5 rfl)) (mvT hZ (own_w hw 6 rfl)) (mvT hZ (own_w hw 7 rfl)) (by decide) (backOf (W := 1) (rm1_w1 l Z a0 hw [] b137 h137 n0 Z141 A137 F142 F143 F144 F145 F146 g_b137) hZ (own_w hw 7 rfl) (own_w hw 4 rfl) (by decide) (by decide)) (g := (mkF m 89 #[vi p1, vj q2, .second, vj q3, .second, vj q4, .second, vj q5, .second, vi p6, vi (1 : Int32), vi (1 : Int32), vr b111, vr b123, vi k, .unset, .unset, .unset] [(.int (1 : Int32)), (.ref b137), (.ref b137)])) rfl (by rw [hml]; rfl) (Steps.refl _) (a := b137) (argsL := [(.int (1 : Int32))]) (rest := [(.ref b137)]) (lenOf pd0_0 rfl) rfl (by show 2 * 0 + _ ≤ _; exact Nat.le_of_eq rfl) (hb hby at_89) (fun _ _ => ⟨rfl, e137, (by decide : 3 + 3 ≤ _), (by decide : 9 + 64 ≤ _)⟩)
      dsimp only [Pt.U, Pt.locs, Pt.cells, Pt.slots] at X149 l149 y149 z149 st149 hQ149
      subst l149 y149 z149
      obtain ⟨bw_149, bh_149, bs_149, kw_149, kh_149, ks_149, rfl, Nq149, Kc149, hbw_149, hbh_149, hbs_149, nwh_149, nws_149, nhs_149, Fwi_149, Fwo_149, Fha_149, Fsl_149, Fco_149, Vw_149, Vh_149, Vs_149⟩ := hQ149
      have N149 := Fr.app N132 Nq149
      have F150 : Arv Z h137 b111 k111 .long (2 : Int32) [(.long q2), (.long q3)] (.long (0 : Int64)) := (F138.ext E137)
      have ne151 : b111 ≠ bw_149 := Nat.ne_of_lt (Nat.lt_of_lt_of_le F150.lt hbw_149)
      have F152 : Arv Z h137 b123 k123 .long (2 : Int32) [(.long q2), (.long q3)] (.long (0 : Int64)) := (V132.ext E137)
      have ne153 : b123 ≠ bw_149 := Nat.ne_of_lt (Nat.lt_of_lt_of_le F152.lt hbw_149)
      have ne154 : b137 ≠ bw_149 := Nat.ne_of_lt (Nat.lt_of_lt_of_le A137.lt hbw_149)
      have g_bw_149 : n0 ≤ bw_149 := Nat.le_trans Z141 hbw_149
      have ne155 : b111 ≠ bh_149 := Nat.ne_of_lt (Nat.lt_of_lt_of_le F150.lt hbh_149)
      have ne156 : b123 ≠ bh_149 := Nat.ne_of_lt (Nat.lt_of_lt_of_le F152.lt hbh_149)
      have ne157 : b137 ≠ bh_149 := Nat.ne_of_lt (Nat.lt_of_lt_of_le A137.lt hbh_149)
      have g_bh_149 : n0 ≤ bh_149 := Nat.le_trans Z141 hbh_149
      have ne158 : b111 ≠ bs_149 := Nat.ne_of_lt (Nat.lt_of_lt_of_le F150.lt hbs_149)
      have ne159 : b123 ≠ bs_149 := Nat.ne_of_lt (Nat.lt_of_lt_of_le F152.lt hbs_149)
      have ne160 : b137 ≠ bs_149 := Nat.ne_of_lt (Nat.lt_of_lt_of_le A137.lt hbs_149)
      have g_bs_149 : n0 ≤ bs_149 := Nat.le_trans Z141 hbs_149
      have Z161 : n0 ≤ T149.heap.size := Nat.le_trans Z141 Kc149.1
      have go162 : Go p e below s₁ F0 T149 (mkF m 92 #[vi p1, vj q2, .second, vj q3, .second, vj q4, .second, vj q5, .second, vi p6, vi (1 : Int32), vi (1 : Int32), vr b111, vr b123, vi k, .unset, .unset, .unset] [(.ref b137)]) := fun t_ k_ => go148 t_ (st149.trans k_)
      have F163 : Exa Z T149.heap b137 c_0 := (A137.keep Kc149)
      have F164 : Arv Z T149.heap b111 k111 .long (2 : Int32) [(.long q2), (.long q3)] (.long (0 : Int64)) := (F150.keep Kc149 (ninS ne139 nin0))
      have go165 : Go p e below s₁ F0 T149 (mkF m 98 #[vi p1, vj q2, .second, vj q3, .second, vj q4, .second, vj q5, .second, vi p6, vi (1 : Int32), vi (1 : Int32), vr b111, vr b123, vi k, vr b137, .unset, .unset] [(.ref b111), (.ref b137)]) := by
        intro t_ k_
        refine go162 t_ ?_
        refine o_astore X149 hx (hb hby at_92) rfl (L' := #[vi p1, vj q2, .second, vj q3, .second, vj q4, .second, vj q5, .second, vi p6, vi (1 : Int32), vi (1 : Int32), vr b111, vr b123, vi k, vr b137, .unset, .unset]) rfl ?_
        refine o_aload X149 hx (hb hby at_94) rfl rfl ?_
        refine o_aload X149 hx (hb hby at_96) rfl rfl ?_
        exact k_
      obtain ⟨cq166, kq166, q166a, q166b, q166c⟩ := isOf hZ rfl F163
      obtain ⟨_, _, ⟨T166, L166, k166, n166⟩, -, X166, ⟨Lc166, hQ166, l166, y166, z166⟩, st166⟩ := X149.virtualBack hx (y := y_4) (z := y_4) hown (mvT hZ (own_w hw 20 rfl)) (mvT hZ (own_w hw 21 rfl)) (notFace_of_selects (args := #[]) (mvT hZ (own_w hw 23 rfl))) (mvT hZ (own_w hw 23 rfl)) (mvT hZ (own_w hw 22 rfl)) (by decide) (backOf (W := 0) (rm3_a1 l Z a0 hw [] b137 b111 bw_149 bh_149 bs_149 kw_149 kh_149 ks_149 k111 q2 q3 (T149.heap) n0 Z161 F163 Fwi_149 Fwo_149 Fha_149 Fsl_149 Fco_149 Vw_149 Vh_149 Vs_149 F164 g_b137 g_bw_149 g_bh_149 g_bs_149 ne154 ne157 ne160 ne151 ne155 ne158 (Ne.symm ne139) nwh_149 nws_149 nhs_149) hZ (own_w hw 24 rfl) (own_w hw 4 rfl) (by decide) (by decide)) q166a q166c (g := (mkF m 98 #[vi p1, vj q2, .second, vj q3, .second, vj q4, .second, vj q5, .second, vi p6, vi (1 : Int32), vi (1 : Int32), vr b111, vr b123, vi k, vr b137, .unset, .unset] [(.ref b111), (.ref b137)])) rfl (by rw [hml]; rfl) (Steps.refl _) (argsL := [(.ref b111)]) (rest := []) (lenOf pd0_1 rfl) rfl (by show 2 * 0 + _ ≤ _; exact Nat.le_of_eq rfl) (hb hby at_98) (fun _ _ => ⟨rfl, rfl, (by decide : 6 + 0 ≤ _), (by decide : 73 + 0 ≤ _)⟩)
      dsimp only [Pt.U, Pt.locs, Pt.cells, Pt.slots] at X166 l166 y166 z166 st166 hQ166
      subst l166 y166 z166
      obtain ⟨hs_166, sl_166, rfl, Nq166, Kc166, Fwi_166, Fwo_166, Fha_166, Fsl_166, Fco_166, Vw_166, Vh_166, Vs_166, hhs_166, hsl_166⟩ := hQ166
      have N166 := Fr.app N149 Nq166
      have Z167 : n0 ≤ T166.heap.size := Nat.le_trans Z161 Kc166.1
      have go168 : Go p e below s₁ F0 T166 (mkF m 101 #[vi p1, vj q2, .second, vj q3, .second, vj q4, .second, vj q5, .second, vi p6, vi (1 : Int32), vi (1 : Int32), vr b111, vr b123, vi k, vr b137, .unset, .unset] [(.int (0 : Int32))]) := fun t_ k_ => go165 t_ (st166.trans k_)
      have F169 : Exa Z T166.heap b137 c_0 := (F163.keep Kc166)
      have F170 : Arv Z T166.heap b123 k123 .long (2 : Int32) [(.long q2), (.long q3)] (.long (0 : Int64)) := ((F152.keep Kc149 (ninS ne140 nin0)).keep Kc166 (ninS ne140 (ninS ne153 (ninS ne156 (ninS ne159 nin0)))))
      have go171 : Go p e below s₁ F0 T166 (mkF m 107 #[vi p1, vj q2, .second, vj q3, .second, vj q4, .second, vj q5, .second, vi p6, vi (1 : Int32), vi (1 : Int32), vr b111, vr b123, vi k, vr b137, vi (0 : Int32), .unset] [(.ref b123), (.ref b137)]) := by
        intro t_ k_
        refine go168 t_ ?_
        refine o_istore X166 hx (hb hby at_101) (L' := #[vi p1, vj q2, .second, vj q3, .second, vj q4, .second, vj q5, .second, vi p6, vi (1 : Int32), vi (1 : Int32), vr b111, vr b123, vi k, vr b137, vi (0 : Int32), .unset]) rfl ?_
        refine o_aload X166 hx (hb hby at_103) rfl rfl ?_
        refine o_aload X166 hx (hb hby at_105) rfl rfl ?_
        exact k_
      obtain ⟨cq172, kq172, q172a, q172b, q172c⟩ := isOf hZ rfl F169
      obtain ⟨_, _, ⟨T172, L172, k172, n172⟩, -, X172, ⟨Lc172, hQ172, l172, y172, z172⟩, st172⟩ := X166.virtualBack hx (y := y_4) (z := y_4) hown (mvT hZ (own_w hw 20 rfl)) (mvT hZ (own_w hw 21 rfl)) (notFace_of_selects (args := #[]) (mvT hZ (own_w hw 23 rfl))) (mvT hZ (own_w hw 23 rfl)) (mvT hZ (own_w hw 22 rfl)) (by decide) (backOf (W := 0) (rm3_b1 l Z a0 hw [] b137 b123 bw_149 bh_149 bs_149 kw_149 kh_149 ks_149 k123 hs_166 sl_166 q2 q2 q3 (T166.heap) n0 Z167 F169 Fwi_166 Fwo_166 Fha_166 Fsl_166 Fco_166 Vw_166 Vh_166 Vs_166 F170 g_b137 g_bw_149 g_bh_149 g_bs_149 ne154 ne157 ne160 ne153 ne156 ne159 (Ne.symm ne140) nwh_149 nws_149 nhs_149 hhs_166 hsl_166) hZ (own_w hw 24 rfl) (own_w hw 4 rfl) (by decide) (by decide)) q172a q172c (g := (mkF m 107 #[vi p1, vj q2, .second, vj q3, .second, vj q4, .second, vj q5, .second, vi p6, vi (1 : Int32), vi (1 : Int32), vr b111, vr b123, vi k, vr b137, vi (0 : Int32), .unset] [(.ref b123), (.ref b137)])) rfl (by rw [hml]; rfl) (Steps.refl _) (argsL := [(.ref b123)]) (rest := []) (lenOf pd0_1 rfl) rfl (by show 2 * 0 + _ ≤ _; exact Nat.le_of_eq rfl) (hb hby at_107) (fun _ _ => ⟨rfl, rfl, (by decide : 6 + 0 ≤ _), (by decide : 73 + 0 ≤ _)⟩)
      dsimp only [Pt.U, Pt.locs, Pt.cells, Pt.slots] at X172 l172 y172 z172 st172 hQ172
      subst l172 y172 z172
      obtain ⟨n_172, w0_172, rfl, Nq172, Kc172, Fwi_172, Fwo_172, Vw_172, hP_172⟩ := hQ172
      have N172 := Fr.app N166 Nq172
      have Z173 : n0 ≤ T172.heap.size := Nat.le_trans Z167 Kc172.1
      have go174 : Go p e below s₁ F0 T172 (mkF m 110 #[vi p1, vj q2, .second, vj q3, .second, vj q4, .second, vj q5, .second, vi p6, vi (1 : Int32), vi (1 : Int32), vr b111, vr b123, vi k, vr b137, vi (0 : Int32), .unset] [(.int n_172)]) := fun t_ k_ => go171 t_ (st172.trans k_)
      have hcs175 : n_172 = (0 : Int32) ∨ n_172 = (1 : Int32) := own_or hP_172
      rcases hcs175 with hcs175 | hcs175
      · skip
        have go176 : Go p e below s₁ F0 T172 (mkF m 110 #[vi p1, vj q2, .second, vj q3, .second, vj q4, .second, vj q5, .second, vi p6, vi (1 : Int32), vi (1 : Int32), vr b111, vr b123, vi k, vr b137, vi (0 : Int32), .unset] [(.int (0 : Int32))]) := by rw [hcs175] at go174; exact go174
        have go177 : Go p e below s₁ F0 T172 (mkF m 118 #[vi p1, vj q2, .second, vj q3, .second, vj q4, .second, vj q5, .second, vi p6, vi (1 : Int32), vi (1 : Int32), vr b111, vr b123, vi k, vr b137, vi (0 : Int32), vi (0 : Int32)] [(.int k), (.int (0 : Int32)), (.ref b137)]) := by
          intro t_ k_
          refine go176 t_ ?_
          refine o_istore X172 hx (hb hby at_110) (L' := #[vi p1, vj q2, .second, vj q3, .second, vj q4, .second, vj q5, .second, vi p6, vi (1 : Int32), vi (1 : Int32), vr b111, vr b123, vi k, vr b137, vi (0 : Int32), vi (0 : Int32)]) rfl ?_
          refine o_aload X172 hx (hb hby at_112) rfl rfl ?_
          refine o_iload X172 hx (hb hby at_114) rfl ?_
          refine o_iload X172 hx (hb hby at_116) rfl ?_
          exact k_
        have F179 : Exa Z T172.heap b137 c_0 := (F169.keep Kc172)
        obtain ⟨cq178, kq178, q178a, q178b, q178c⟩ := isOf hZ rfl F179
        obtain ⟨_, _, ⟨T178, L178, k178, n178⟩, -, X178, ⟨Lc178, hQ178, l178, y178, z178⟩, st178⟩ := X172.virtualBack hx (y := y_6) (z := y_6) hown (mvT hZ (own_w hw 47 rfl)) (mvT hZ (own_w hw 48 rfl)) (notFace_of_selects (args := #[]) (mvT hZ (own_w hw 50 rfl))) (mvT hZ (own_w hw 50 rfl)) (mvT hZ (own_w hw 49 rfl)) (by decide) (backOf (W := 0) (rm8_1_0_0 l Z a0 hw [] b137 k bw_149 kw_149 q2 w0_172 (T172.heap) n0 Z173 Fwi_172 Fwo_172 Vw_172 (own_d0 (own_k64 h_k).1 (own_k64 h_k).2)) hZ (own_w hw 51 rfl) (own_w hw 4 rfl) (by decide) (by decide)) q178a q178c (g := (mkF m 118 #[vi p1, vj q2, .second, vj q3, .second, vj q4, .second, vj q5, .second, vi p6, vi (1 : Int32), vi (1 : Int32), vr b111, vr b123, vi k, vr b137, vi (0 : Int32), vi (0 : Int32)] [(.int k), (.int (0 : Int32)), (.ref b137)])) rfl (by rw [hml]; rfl) (Steps.refl _) (argsL := [(.int (0 : Int32)), (.int k)]) (rest := []) (lenOf pd0_2 rfl) rfl (by show 2 * 0 + _ ≤ _; exact Nat.le_of_eq rfl) (hb hby at_118) (fun _ _ => ⟨rfl, rfl, (by decide : 6 + 0 ≤ _), (by decide : 73 + 0 ≤ _)⟩)
        dsimp only [Pt.U, Pt.locs, Pt.cells, Pt.slots] at X178 l178 y178 z178 st178 hQ178
        subst l178 y178 z178
        obtain ⟨rfl, Nq178, eh178⟩ := hQ178
        have N178 := Fr.app N172 Nq178
        have go180 : Go p e below s₁ F0 T178 (mkF m 121 #[vi p1, vj q2, .second, vj q3, .second, vj q4, .second, vj q5, .second, vi p6, vi (1 : Int32), vi (1 : Int32), vr b111, vr b123, vi k, vr b137, vi (0 : Int32), vi (0 : Int32)] [(.int (f8_1_0_0 k q2 w0_172))]) := fun t_ k_ => go177 t_ (st178.trans k_)
        have F181 : Arv Z T172.heap b111 k111 .long (2 : Int32) [(.long q2), (.long q3)] (.long (0 : Int64)) := ((F164.keep Kc166 (ninS ne139 (ninS ne151 (ninS ne155 (ninS ne158 nin0))))).keep Kc172 (ninS ne139 (ninS ne151 (ninS ne155 (ninS ne158 nin0)))))
        have go182 : Go p e below s₁ F0 T178 (mkF m 125 #[vi p1, vj q2, .second, vj q3, .second, vj q4, .second, vj q5, .second, vi p6, vi (1 : Int32), vi (1 : Int32), vr b111, vr b123, vi k, vr b137, vi (0 : Int32), vi (0 : Int32)] [(.int k), (.ref b111), (.int (f8_1_0_0 k q2 w0_172))]) := by
          intro t_ k_
          refine go180 t_ ?_
          refine o_aload X178 hx (hb hby at_121) rfl rfl ?_
          refine o_iload X178 hx (hb hby at_123) rfl ?_
          exact k_
        obtain ⟨_, _, ⟨T183, L183, k183, n183⟩, -, X183, ⟨Lc183, hQ183, l183, y183, z183⟩, st183⟩ := Jvm.LawKit.callS X178 hx (y := y_7) hown (mvT hZ (own_w hw 52 rfl)) (mvT hZ (own_w hw 53 rfl)) (mvT hZ (own_w hw 54 rfl)) (mvT hZ (own_w hw 55 rfl)) (by decide) (backOf (W := 1) (rm9_0 l Z a0 hw [] b111 k k111 q2 q3 (T172.heap) n0 Z173 F181 (own_k64 h_k).2) hZ (own_w hw 55 rfl) (own_w hw 54 rfl) (by decide) (by decide)) (g := (mkF m 125 #[vi p1, vj q2, .second, vj q3, .second, vj q4, .second, vj q5, .second, vi p6, vi (1 : Int32), vi (1 : Int32), vr b111, vr b123, vi k, vr b137, vi (0 : Int32), vi (0 : Int32)] [(.int k), (.ref b111), (.int (f8_1_0_0 k q2 w0_172))])) rfl (by rw [hml]; rfl) (argsL := [(.ref b111), (.int k)]) (rest := [(.int (f8_1_0_0 k q2 w0_172))]) (lenOf pd0_3 rfl) rfl (by show 2 * 0 + _ ≤ _; exact Nat.le_of_eq rfl) (hb hby at_125) (fun _ _ => ⟨rfl, eh178, (by decide : 6 + 0 ≤ _), (by decide : 73 + 0 ≤ _)⟩)
        dsimp only [Pt.U, Pt.locs, Pt.cells, Pt.slots] at X183 l183 y183 z183 st183 hQ183
        subst l183 y183 z183
        obtain ⟨rfl, Nq183, eh183⟩ := hQ183
        have N183 := Fr.app N178 Nq183
        have go184 : Go p e below s₁ F0 T183 (mkF m 128 #[vi p1, vj q2, .second, vj q3, .second, vj q4, .second, vj q5, .second, vi p6, vi (1 : Int32), vi (1 : Int32), vr b111, vr b123, vi k, vr b137, vi (0 : Int32), vi (0 : Int32)] [(.int (f9_0 k q2 q3)), (.int (f8_1_0_0 k q2 w0_172))]) := fun t_ k_ => go182 t_ (st183 t_ k_)
        have hd185 : (f8_1_0_0 k q2 w0_172) = (f9_0 k q2 q3) := own_bit _ _
        have go186 : Go p e below s₁ F0 T183 (mkF m 137 #[vi p1, vj q2, .second, vj q3, .second, vj q4, .second, vj q5, .second, vi p6, vi (1 : Int32), vi (1 : Int32), vr b111, vr b123, vi k, vr b137, vi (0 : Int32), vi (0 : Int32)] [(.int k), (.int (0 : Int32)), (.ref b137)]) := by
          intro t_ k_
          refine go184 t_ ?_
          refine o_icmpNo X183 hx (hb hby at_128) (teq hd185).2 ?_
          refine o_aload X183 hx (hb hby at_131) rfl rfl ?_
          refine o_iload X183 hx (hb hby at_133) rfl ?_
          refine o_iload X183 hx (hb hby at_135) rfl ?_
          exact k_
        obtain ⟨cq187, kq187, q187a, q187b, q187c⟩ := isOf hZ eh183 F179
        obtain ⟨_, _, ⟨T187, L187, k187, n187⟩, -, X187, ⟨Lc187, hQ187, l187, y187, z187⟩, st187⟩ := X183.virtualBack hx (y := y_6) (z := y_6) hown (mvT hZ (own_w hw 47 rfl)) (mvT hZ (own_w hw 48 rfl)) (notFace_of_selects (args := #[]) (mvT hZ (own_w hw 50 rfl))) (mvT hZ (own_w hw 50 rfl)) (mvT hZ (own_w hw 49 rfl)) (by decide) (backOf (W := 0) (rm8_1_0_0 l Z a0 hw [] b137 k bw_149 kw_149 q2 w0_172 (T172.heap) n0 Z173 Fwi_172 Fwo_172 Vw_172 (own_d0 (own_k64 h_k).1 (own_k64 h_k).2)) hZ (own_w hw 51 rfl) (own_w hw 4 rfl) (by decide) (by decide)) q187a q187c (g := (mkF m 137 #[vi p1, vj q2, .second, vj q3, .second, vj q4, .second, vj q5, .second, vi p6, vi (1 : Int32), vi (1 : Int32), vr b111, vr b123, vi k, vr b137, vi (0 : Int32), vi (0 : Int32)] [(.int k), (.int (0 : Int32)), (.ref b137)])) rfl (by rw [hml]; rfl) (Steps.refl _) (argsL := [(.int (0 : Int32)), (.int k)]) (rest := []) (lenOf pd0_2 rfl) rfl (by show 2 * 0 + _ ≤ _; exact Nat.le_of_eq rfl) (hb hby at_137) (fun _ _ => ⟨rfl, eh183, (by decide : 6 + 0 ≤ _), (by decide : 73 + 0 ≤ _)⟩)
        dsimp only [Pt.U, Pt.locs, Pt.cells, Pt.slots] at X187 l187 y187 z187 st187 hQ187
        subst l187 y187 z187
        obtain ⟨rfl, Nq187, eh187⟩ := hQ187
        have N187 := Fr.app N183 Nq187
        have go188 : Go p e below s₁ F0 T187 (mkF m 140 #[vi p1, vj q2, .second, vj q3, .second, vj q4, .second, vj q5, .second, vi p6, vi (1 : Int32), vi (1 : Int32), vr b111, vr b123, vi k, vr b137, vi (0 : Int32), vi (0 : Int32)] [(.int (f8_1_0_0 k q2 w0_172))]) := fun t_ k_ => go186 t_ (st187.trans k_)
        have F189 : Arv Z T172.heap b123 k123 .long (2 : Int32) [(.long q2), (.long q3)] (.long (0 : Int64)) := (F170.keep Kc172 (ninS ne140 (ninS ne153 (ninS ne156 (ninS ne159 nin0)))))
        have go190 : Go p e below s₁ F0 T187 (mkF m 144 #[vi p1, vj q2, .second, vj q3, .second, vj q4, .second, vj q5, .second, vi p6, vi (1 : Int32), vi (1 : Int32), vr b111, vr b123, vi k, vr b137, vi (0 : Int32), vi (0 : Int32)] [(.int k), (.ref b123), (.int (f8_1_0_0 k q2 w0_172))]) := by
          intro t_ k_
          refine go188 t_ ?_
          refine o_aload X187 hx (hb hby at_140) rfl rfl ?_
          refine o_iload X187 hx (hb hby at_142) rfl ?_
          exact k_
        obtain ⟨_, _, ⟨T191, L191, k191, n191⟩, -, X191, ⟨Lc191, hQ191, l191, y191, z191⟩, st191⟩ := Jvm.LawKit.callS X187 hx (y := y_7) hown (mvT hZ (own_w hw 52 rfl)) (mvT hZ (own_w hw 53 rfl)) (mvT hZ (own_w hw 54 rfl)) (mvT hZ (own_w hw 55 rfl)) (by decide) (backOf (W := 1) (rm9_0 l Z a0 hw [] b123 k k123 q2 q3 (T172.heap) n0 Z173 F189 (own_k64 h_k).2) hZ (own_w hw 55 rfl) (own_w hw 54 rfl) (by decide) (by decide)) (g := (mkF m 144 #[vi p1, vj q2, .second, vj q3, .second, vj q4, .second, vj q5, .second, vi p6, vi (1 : Int32), vi (1 : Int32), vr b111, vr b123, vi k, vr b137, vi (0 : Int32), vi (0 : Int32)] [(.int k), (.ref b123), (.int (f8_1_0_0 k q2 w0_172))])) rfl (by rw [hml]; rfl) (argsL := [(.ref b123), (.int k)]) (rest := [(.int (f8_1_0_0 k q2 w0_172))]) (lenOf pd0_3 rfl) rfl (by show 2 * 0 + _ ≤ _; exact Nat.le_of_eq rfl) (hb hby at_144) (fun _ _ => ⟨rfl, eh187, (by decide : 6 + 0 ≤ _), (by decide : 73 + 0 ≤ _)⟩)
        dsimp only [Pt.U, Pt.locs, Pt.cells, Pt.slots] at X191 l191 y191 z191 st191 hQ191
        subst l191 y191 z191
        obtain ⟨rfl, Nq191, eh191⟩ := hQ191
        have N191 := Fr.app N187 Nq191
        have go192 : Go p e below s₁ F0 T191 (mkF m 147 #[vi p1, vj q2, .second, vj q3, .second, vj q4, .second, vj q5, .second, vi p6, vi (1 : Int32), vi (1 : Int32), vr b111, vr b123, vi k, vr b137, vi (0 : Int32), vi (0 : Int32)] [(.int (f9_0 k q2 q3)), (.int (f8_1_0_0 k q2 w0_172))]) := fun t_ k_ => go190 t_ (st191 t_ k_)
        have go193 : Go p e below s₁ F0 T191 (mkF m 155 #[vi p1, vj q2, .second, vj q3, .second, vj q4, .second, vj q5, .second, vi p6, vi (1 : Int32), vi (1 : Int32), vr b111, vr b123, vi k, vr b137, vi (0 : Int32), vi (0 : Int32)] [(.int (1 : Int32))]) := by
          intro t_ k_
          refine go192 t_ ?_
          refine o_icmpNo X191 hx (hb hby at_147) (teq hd185).2 ?_
          refine o_iconst X191 hx (hb hby at_150) (v := 1) rfl ?_
          refine o_goto X191 hx (hb hby at_151) (pc' := 155) rfl (by decide) ?_
          exact k_
        obtain ⟨fs, hr, hrun, hended, hW, hsame⟩ := X191.leave (v := some (.int (1 : Int32))) (fun h => by rw [Bd.returns] at h; cases h)
        refine ⟨_, _, pre0 _ (go193 _ ?_), hrun, hended, _, _, rfl, ?_, ⟨_, rfl⟩, hW, hsame.mono (by decide) (by decide)⟩
        · skip
          exact retN X191 hx (t := .boolean) Bd.returns (by simp) (hb hby at_155) hr
        · show Q0 Z p1 q2 q3 q4 q5 p6 h0 n0 _ T191.heap _
          rw [eh191]
          exact ⟨rfl, N191⟩
      · skip
        have go194 : Go p e below s₁ F0 T172 (mkF m 110 #[vi p1, vj q2, .second, vj q3, .second, vj q4, .second, vj q5, .second, vi p6, vi (1 : Int32), vi (1 : Int32), vr b111, vr b123, vi k, vr b137, vi (0 : Int32), .unset] [(.int (1 : Int32))]) := by rw [hcs175] at go174; exact go174
        have go195 : Go p e below s₁ F0 T172 (mkF m 118 #[vi p1, vj q2, .second, vj q3, .second, vj q4, .second, vj q5, .second, vi p6, vi (1 : Int32), vi (1 : Int32), vr b111, vr b123, vi k, vr b137, vi (0 : Int32), vi (1 : Int32)] [(.int k), (.int (0 : Int32)), (.ref b137)]) := by
          intro t_ k_
          refine go194 t_ ?_
          refine o_istore X172 hx (hb hby at_110) (L' := #[vi p1, vj q2, .second, vj q3, .second, vj q4, .second, vj q5, .second, vi p6, vi (1 : Int32), vi (1 : Int32), vr b111, vr b123, vi k, vr b137, vi (0 : Int32), vi (1 : Int32)]) rfl ?_
          refine o_aload X172 hx (hb hby at_112) rfl rfl ?_
          refine o_iload X172 hx (hb hby at_114) rfl ?_
          refine o_iload X172 hx (hb hby at_116) rfl ?_
          exact k_
        have F197 : Exa Z T172.heap b137 c_0 := (F169.keep Kc172)
        obtain ⟨cq196, kq196, q196a, q196b, q196c⟩ := isOf hZ rfl F197
        obtain ⟨_, _, ⟨T196, L196, k196, n196⟩, -, X196, ⟨Lc196, hQ196, l196, y196, z196⟩, st196⟩ := X172.virtualBack hx (y := y_6) (z := y_6) hown (mvT hZ (own_w hw 47 rfl)) (mvT hZ (own_w hw 48 rfl)) (notFace_of_selects (args := #[]) (mvT hZ (own_w hw 50 rfl))) (mvT hZ (own_w hw 50 rfl)) (mvT hZ (own_w hw 49 rfl)) (by decide) (backOf (W := 0) (rm8_1_0_0 l Z a0 hw [] b137 k bw_149 kw_149 q2 w0_172 (T172.heap) n0 Z173 Fwi_172 Fwo_172 Vw_172 (own_d0 (own_k64 h_k).1 (own_k64 h_k).2)) hZ (own_w hw 51 rfl) (own_w hw 4 rfl) (by decide) (by decide)) q196a q196c (g := (mkF m 118 #[vi p1, vj q2, .second, vj q3, .second, vj q4, .second, vj q5, .second, vi p6, vi (1 : Int32), vi (1 : Int32), vr b111, vr b123, vi k, vr b137, vi (0 : Int32), vi (1 : Int32)] [(.int k), (.int (0 : Int32)), (.ref b137)])) rfl (by rw [hml]; rfl) (Steps.refl _) (argsL := [(.int (0 : Int32)), (.int k)]) (rest := []) (lenOf pd0_2 rfl) rfl (by show 2 * 0 + _ ≤ _; exact Nat.le_of_eq rfl) (hb hby at_118) (fun _ _ => ⟨rfl, rfl, (by decide : 6 + 0 ≤ _), (by decide : 73 + 0 ≤ _)⟩)
        dsimp only [Pt.U, Pt.locs, Pt.cells, Pt.slots] at X196 l196 y196 z196 st196 hQ196
        subst l196 y196 z196
        obtain ⟨rfl, Nq196, eh196⟩ := hQ196
        have N196 := Fr.app N172 Nq196
        have go198 : Go p e below s₁ F0 T196 (mkF m 121 #[vi p1, vj q2, .second, vj q3, .second, vj q4, .second, vj q5, .second, vi p6, vi (1 : Int32), vi (1 : Int32), vr b111, vr b123, vi k, vr b137, vi (0 : Int32), vi (1 : Int32)] [(.int (f8_1_0_0 k q2 w0_172))]) := fun t_ k_ => go195 t_ (st196.trans k_)
        have F199 : Arv Z T172.heap b111 k111 .long (2 : Int32) [(.long q2), (.long q3)] (.long (0 : Int64)) := ((F164.keep Kc166 (ninS ne139 (ninS ne151 (ninS ne155 (ninS ne158 nin0))))).keep Kc172 (ninS ne139 (ninS ne151 (ninS ne155 (ninS ne158 nin0)))))
        have go200 : Go p e below s₁ F0 T196 (mkF m 125 #[vi p1, vj q2, .second, vj q3, .second, vj q4, .second, vj q5, .second, vi p6, vi (1 : Int32), vi (1 : Int32), vr b111, vr b123, vi k, vr b137, vi (0 : Int32), vi (1 : Int32)] [(.int k), (.ref b111), (.int (f8_1_0_0 k q2 w0_172))]) := by
          intro t_ k_
          refine go198 t_ ?_
          refine o_aload X196 hx (hb hby at_121) rfl rfl ?_
          refine o_iload X196 hx (hb hby at_123) rfl ?_
          exact k_
        obtain ⟨_, _, ⟨T201, L201, k201, n201⟩, -, X201, ⟨Lc201, hQ201, l201, y201, z201⟩, st201⟩ := Jvm.LawKit.callS X196 hx (y := y_7) hown (mvT hZ (own_w hw 52 rfl)) (mvT hZ (own_w hw 53 rfl)) (mvT hZ (own_w hw 54 rfl)) (mvT hZ (own_w hw 55 rfl)) (by decide) (backOf (W := 1) (rm9_0 l Z a0 hw [] b111 k k111 q2 q3 (T172.heap) n0 Z173 F199 (own_k64 h_k).2) hZ (own_w hw 55 rfl) (own_w hw 54 rfl) (by decide) (by decide)) (g := (mkF m 125 #[vi p1, vj q2, .second, vj q3, .second, vj q4, .second, vj q5, .second, vi p6, vi (1 : Int32), vi (1 : Int32), vr b111, vr b123, vi k, vr b137, vi (0 : Int32), vi (1 : Int32)] [(.int k), (.ref b111), (.int (f8_1_0_0 k q2 w0_172))])) rfl (by rw [hml]; rfl) (argsL := [(.ref b111), (.int k)]) (rest := [(.int (f8_1_0_0 k q2 w0_172))]) (lenOf pd0_3 rfl) rfl (by show 2 * 0 + _ ≤ _; exact Nat.le_of_eq rfl) (hb hby at_125) (fun _ _ => ⟨rfl, eh196, (by decide : 6 + 0 ≤ _), (by decide : 73 + 0 ≤ _)⟩)
        dsimp only [Pt.U, Pt.locs, Pt.cells, Pt.slots] at X201 l201 y201 z201 st201 hQ201
        subst l201 y201 z201
        obtain ⟨rfl, Nq201, eh201⟩ := hQ201
        have N201 := Fr.app N196 Nq201
        have go202 : Go p e below s₁ F0 T201 (mkF m 128 #[vi p1, vj q2, .second, vj q3, .second, vj q4, .second, vj q5, .second, vi p6, vi (1 : Int32), vi (1 : Int32), vr b111, vr b123, vi k, vr b137, vi (0 : Int32), vi (1 : Int32)] [(.int (f9_0 k q2 q3)), (.int (f8_1_0_0 k q2 w0_172))]) := fun t_ k_ => go200 t_ (st201 t_ k_)
        have hd203 : (f8_1_0_0 k q2 w0_172) = (f9_0 k q2 q3) := own_bit _ _
        have go204 : Go p e below s₁ F0 T201 (mkF m 137 #[vi p1, vj q2, .second, vj q3, .second, vj q4, .second, vj q5, .second, vi p6, vi (1 : Int32), vi (1 : Int32), vr b111, vr b123, vi k, vr b137, vi (0 : Int32), vi (1 : Int32)] [(.int k), (.int (1 : Int32)), (.ref b137)]) := by
          intro t_ k_
          refine go202 t_ ?_
          refine o_icmpNo X201 hx (hb hby at_128) (teq hd203).2 ?_
          refine o_aload X201 hx (hb hby at_131) rfl rfl ?_
          refine o_iload X201 hx (hb hby at_133) rfl ?_
          refine o_iload X201 hx (hb hby at_135) rfl ?_
          exact k_
        obtain ⟨cq205, kq205, q205a, q205b, q205c⟩ := isOf hZ eh201 F197
        obtain ⟨_, _, ⟨T205, L205, k205, n205⟩, -, X205, ⟨Lc205, hQ205, l205, y205, z205⟩, st205⟩ := X201.virtualBack hx (y := y_6) (z := y_6) hown (mvT hZ (own_w hw 47 rfl)) (mvT hZ (own_w hw 48 rfl)) (notFace_of_selects (args := #[]) (mvT hZ (own_w hw 50 rfl))) (mvT hZ (own_w hw 50 rfl)) (mvT hZ (own_w hw 49 rfl)) (by decide) (backOf (W := 0) (rm8_1_1_0 l Z a0 hw [] b137 k bw_149 kw_149 q2 w0_172 (T172.heap) n0 Z173 Fwi_172 Fwo_172 Vw_172 (own_d0 (own_k64 h_k).1 (own_k64 h_k).2)) hZ (own_w hw 51 rfl) (own_w hw 4 rfl) (by decide) (by decide)) q205a q205c (g := (mkF m 137 #[vi p1, vj q2, .second, vj q3, .second, vj q4, .second, vj q5, .second, vi p6, vi (1 : Int32), vi (1 : Int32), vr b111, vr b123, vi k, vr b137, vi (0 : Int32), vi (1 : Int32)] [(.int k), (.int (1 : Int32)), (.ref b137)])) rfl (by rw [hml]; rfl) (Steps.refl _) (argsL := [(.int (1 : Int32)), (.int k)]) (rest := []) (lenOf pd0_2 rfl) rfl (by show 2 * 0 + _ ≤ _; exact Nat.le_of_eq rfl) (hb hby at_137) (fun _ _ => ⟨rfl, eh201, (by decide : 6 + 0 ≤ _), (by decide : 73 + 0 ≤ _)⟩)
        dsimp only [Pt.U, Pt.locs, Pt.cells, Pt.slots] at X205 l205 y205 z205 st205 hQ205
        subst l205 y205 z205
        obtain ⟨rfl, Nq205, eh205⟩ := hQ205
        have N205 := Fr.app N201 Nq205
        have go206 : Go p e below s₁ F0 T205 (mkF m 140 #[vi p1, vj q2, .second, vj q3, .second, vj q4, .second, vj q5, .second, vi p6, vi (1 : Int32), vi (1 : Int32), vr b111, vr b123, vi k, vr b137, vi (0 : Int32), vi (1 : Int32)] [(.int (f8_1_1_0 k q2 w0_172))]) := fun t_ k_ => go204 t_ (st205.trans k_)
        have F207 : Arv Z T172.heap b123 k123 .long (2 : Int32) [(.long q2), (.long q3)] (.long (0 : Int64)) := (F170.keep Kc172 (ninS ne140 (ninS ne153 (ninS ne156 (ninS ne159 nin0)))))
        have go208 : Go p e below s₁ F0 T205 (mkF m 144 #[vi p1, vj q2, .second, vj q3, .second, vj q4, .second, vj q5, .second, vi p6, vi (1 : Int32), vi (1 : Int32), vr b111, vr b123, vi k, vr b137, vi (0 : Int32), vi (1 : Int32)] [(.int k), (.ref b123), (.int (f8_1_1_0 k q2 w0_172))]) := by
          intro t_ k_
          refine go206 t_ ?_
          refine o_aload X205 hx (hb hby at_140) rfl rfl ?_
          refine o_iload X205 hx (hb hby at_142) rfl ?_
          exact k_
        obtain ⟨_, _, ⟨T209, L209, k209, n209⟩, -, X209, ⟨Lc209, hQ209, l209, y209, z209⟩, st209⟩ := Jvm.LawKit.callS X205 hx (y := y_7) hown (mvT hZ (own_w hw 52 rfl)) (mvT hZ (own_w hw 53 rfl)) (mvT hZ (own_w hw 54 rfl)) (mvT hZ (own_w hw 55 rfl)) (by decide) (backOf (W := 1) (rm9_0 l Z a0 hw [] b123 k k123 q2 q3 (T172.heap) n0 Z173 F207 (own_k64 h_k).2) hZ (own_w hw 55 rfl) (own_w hw 54 rfl) (by decide) (by decide)) (g := (mkF m 144 #[vi p1, vj q2, .second, vj q3, .second, vj q4, .second, vj q5, .second, vi p6, vi (1 : Int32), vi (1 : Int32), vr b111, vr b123, vi k, vr b137, vi (0 : Int32), vi (1 : Int32)] [(.int k), (.ref b123), (.int (f8_1_1_0 k q2 w0_172))])) rfl (by rw [hml]; rfl) (argsL := [(.ref b123), (.int k)]) (rest := [(.int (f8_1_1_0 k q2 w0_172))]) (lenOf pd0_3 rfl) rfl (by show 2 * 0 + _ ≤ _; exact Nat.le_of_eq rfl) (hb hby at_144) (fun _ _ => ⟨rfl, eh205, (by decide : 6 + 0 ≤ _), (by decide : 73 + 0 ≤ _)⟩)
        dsimp only [Pt.U, Pt.locs, Pt.cells, Pt.slots] at X209 l209 y209 z209 st209 hQ209
        subst l209 y209 z209
        obtain ⟨rfl, Nq209, eh209⟩ := hQ209
        have N209 := Fr.app N205 Nq209
        have go210 : Go p e below s₁ F0 T209 (mkF m 147 #[vi p1, vj q2, .second, vj q3, .second, vj q4, .second, vj q5, .second, vi p6, vi (1 : Int32), vi (1 : Int32), vr b111, vr b123, vi k, vr b137, vi (0 : Int32), vi (1 : Int32)] [(.int (f9_0 k q2 q3)), (.int (f8_1_1_0 k q2 w0_172))]) := fun t_ k_ => go208 t_ (st209 t_ k_)
        have hd211 : (f8_1_1_0 k q2 w0_172) = (f9_0 k q2 q3) := (by rw [(own_r hP_172 hcs175).2]; exact own_bit _ _)
        have go212 : Go p e below s₁ F0 T209 (mkF m 155 #[vi p1, vj q2, .second, vj q3, .second, vj q4, .second, vj q5, .second, vi p6, vi (1 : Int32), vi (1 : Int32), vr b111, vr b123, vi k, vr b137, vi (0 : Int32), vi (1 : Int32)] [(.int (1 : Int32))]) := by
          intro t_ k_
          refine go210 t_ ?_
          refine o_icmpNo X209 hx (hb hby at_147) (teq hd211).2 ?_
          refine o_iconst X209 hx (hb hby at_150) (v := 1) rfl ?_
          refine o_goto X209 hx (hb hby at_151) (pc' := 155) rfl (by decide) ?_
          exact k_
        obtain ⟨fs, hr, hrun, hended, hW, hsame⟩ := X209.leave (v := some (.int (1 : Int32))) (fun h => by rw [Bd.returns] at h; cases h)
        refine ⟨_, _, pre0 _ (go212 _ ?_), hrun, hended, _, _, rfl, ?_, ⟨_, rfl⟩, hW, hsame.mono (by decide) (by decide)⟩
        · skip
          exact retN X209 hx (t := .boolean) Bd.returns (by simp) (hb hby at_155) hr
        · show Q0 Z p1 q2 q3 q4 q5 p6 h0 n0 _ T209.heap _
          rw [eh209]
          exact ⟨rfl, N209⟩
  · skip
    have go213 : Go p e below s₁ F0 s₁ (mkF m 7 #[vi p1, vj q2, .second, vj q3, .second, vj q4, .second, vj q5, .second, vi p6, vi (2 : Int32), .unset, .unset, .unset, .unset, .unset, .unset, .unset] []) := by rw [hcs2] at go1; exact go1
    have go214 : Go p e below s₁ F0 s₁ (mkF m 10 #[vi p1, vj q2, .second, vj q3, .second, vj q4, .second, vj q5, .second, vi p6, vi (2 : Int32), .unset, .unset, .unset, .unset, .unset, .unset, .unset] [(.int (p1 &&& (2 : Int32)))]) := by
      intro t_ k_
      refine go213 t_ ?_
      refine o_iloadN X0 hx (hb hby at_7) rfl ?_
      refine o_iconst X0 hx (hb hby at_8) (v := 2) rfl ?_
      refine o_iand X0 hx (hb hby at_9) ?_
      exact k_
    by_cases hc10_215 : (p1 &&& (2 : Int32)) = (0 : Int32)
    · skip
      have go216 : Go p e below s₁ F0 s₁ (mkF m 21 #[vi p1, vj q2, .second, vj q3, .second, vj q4, .second, vj q5, .second, vi p6, vi (2 : Int32), vi (0 : Int32), .unset, .unset, .unset, .unset, .unset, .unset] [(.int (2 : Int32))]) := by
        intro t_ k_
        refine go214 t_ ?_
        refine o_ifYes X0 hx (hb hby at_10) (pc' := 17) rfl (by decide) ((if0 _ _).trans (teq hc10_215).1) ?_
        refine o_iconst X0 hx (hb hby at_17) (v := 0) rfl ?_
        refine o_istore X0 hx (hb hby at_18) (L' := #[vi p1, vj q2, .second, vj q3, .second, vj q4, .second, vj q5, .second, vi p6, vi (2 : Int32), vi (0 : Int32), .unset, .unset, .unset, .unset, .unset, .unset]) rfl ?_
        refine o_iconst X0 hx (hb hby at_20) (v := 2) rfl ?_
        exact k_
      obtain ⟨T217, h217, k217, X217, e217, E217, A217, st217⟩ := newP X0 hx hZ (own_w hw 0 rfl) e0 (g := (mkF m 21 #[vi p1, vj q2, .second, vj q3, .second, vj q4, .second, vj q5, .second, vi p6, vi (2 : Int32), vi (0 : Int32), .unset, .unset, .unset, .unset, .unset, .unset] [(.int (2 : Int32))])) rfl (hb hby at_21) rfl (by decide) (cap := 2) (by decide) (by decide) (by decide) (by decide)
      obtain ⟨b217, gz217⟩ : ∃ z, z = h0.size := ⟨_, rfl⟩
      rw [← gz217] at A217 st217
      have g_b217 : n0 ≤ b217 := Nat.le_trans Z0 (Nat.le_of_eq gz217.symm)
      have Z218 : n0 ≤ h217.size := Nat.le_trans Z0 E217.1
      have V217 : Arv Z h217 b217 k217 .long (2 : Int32) [(.long (0 : Int64)), (.long (0 : Int64))] (.long (0 : Int64)) := (Arv.new A217 (by decide)).pad (pad_rep [] (.long (0 : Int64)) 2)
      have go219 : Go p e below s₁ F0 T217 (mkF m 23 #[vi p1, vj q2, .second, vj q3, .second, vj q4, .second, vj q5, .second, vi p6, vi (2 : Int32), vi (0 : Int32), .unset, .unset, .unset, .unset, .unset, .unset] [(.ref b217)]) := fun t_ k_ => go216 t_ (st217 t_ k_)
      have go220 : Go p e below s₁ F0 T217 (mkF m 29 #[vi p1, vj q2, .second, vj q3, .second, vj q4, .second, vj q5, .second, vi p6, vi (2 : Int32), vi (0 : Int32), vr b217, .unset, .unset, .unset, .unset, .unset] [(.long q2), (.int (0 : Int32)), (.ref b217)]) := by
        intro t_ k_
        refine go219 t_ ?_
        refine o_astore X217 hx (hb hby at_23) rfl (L' := #[vi p1, vj q2, .second, vj q3, .second, vj q4, .second, vj q5, .second, vi p6, vi (2 : Int32), vi (0 : Int32), vr b217, .unset, .unset, .unset, .unset, .unset]) rfl ?_
        refine o_aload X217 hx (hb hby at_25) rfl rfl ?_
        refine o_iconst X217 hx (hb hby at_27) (v := 0) rfl ?_
        refine o_lloadN X217 hx (hb hby at_28) rfl ?_
        exact k_
      obtain ⟨cl221, Ar221, q221, Sz221, Nn221, Hs221, G221⟩ := id V217
      have hin221 : ¬ ((0 : Int32) < 0 ∨ cl221.slots.size ≤ ((0 : Int32)).toNatClampNeg) := inb_of Sz221 ⟨by decide, by decide⟩
      obtain ⟨T221, h221, X221, e221, W221, st221⟩ := stJ X217 hx hZ e217 Ar221 (j := (0 : Int32)) hin221 (g := (mkF m 29 #[vi p1, vj q2, .second, vj q3, .second, vj q4, .second, vj q5, .second, vi p6, vi (2 : Int32), vi (0 : Int32), vr b217, .unset, .unset, .unset, .unset, .unset] [(.long q2), (.int (0 : Int32)), (.ref b217)])) rfl rfl (hb hby at_29)
      have V221 : Arv Z h221 b217 k217 .long (2 : Int32) [(.long q2), (.long (0 : Int64))] (.long (0 : Int64)) := Arv.set Ar221 q221 Sz221 Nn221 Hs221 G221 rfl W221 0 rfl (Nat.le_of_ble_eq_true rfl)
      have Z222 : n0 ≤ h221.size := Nat.le_trans Z218 (Keep.of_wr W221).1
      have N221 := Fr.snoc X221 N0 g_b217
      have go223 : Go p e below s₁ F0 T221 (mkF m 30 #[vi p1, vj q2, .second, vj q3, .second, vj q4, .second, vj q5, .second, vi p6, vi (2 : Int32), vi (0 : Int32), vr b217, .unset, .unset, .unset, .unset, .unset] []) := fun t_ k_ => go220 t_ (st221 t_ k_)
      have go224 : Go p e below s₁ F0 T221 (mkF m 34 #[vi p1, vj q2, .second, vj q3, .second, vj q4, .second, vj q5, .second, vi p6, vi (2 : Int32), vi (0 : Int32), vr b217, .unset, .unset, .unset, .unset, .unset] [(.long q3), (.int (1 : Int32)), (.ref b217)]) := by
        intro t_ k_
        refine go223 t_ ?_
        refine o_aload X221 hx (hb hby at_30) rfl rfl ?_
        refine o_iconst X221 hx (hb hby at_32) (v := 1) rfl ?_
        refine o_lloadN X221 hx (hb hby at_33) rfl ?_
        exact k_
      obtain ⟨cl225, Ar225, q225, Sz225, Nn225, Hs225, G225⟩ := id V221
      have hin225 : ¬ ((1 : Int32) < 0 ∨ cl225.slots.size ≤ ((1 : Int32)).toNatClampNeg) := inb_of Sz225 ⟨by decide, by decide⟩
      obtain ⟨T225, h225, X225, e225, W225, st225⟩ := stJ X221 hx hZ e221 Ar225 (j := (1 : Int32)) hin225 (g := (mkF m 34 #[vi p1, vj q2, .second, vj q3, .second, vj q4, .second, vj q5, .second, vi p6, vi (2 : Int32), vi (0 : Int32), vr b217, .unset, .unset, .unset, .unset, .unset] [(.long q3), (.int (1 : Int32)), (.ref b217)])) rfl rfl (hb hby at_34)
      have V225 : Arv Z h225 b217 k217 .long (2 : Int32) [(.long q2), (.long q3)] (.long (0 : Int64)) := Arv.set Ar225 q225 Sz225 Nn225 Hs225 G225 rfl W225 1 rfl (Nat.le_of_ble_eq_true rfl)
      have Z226 : n0 ≤ h225.size := Nat.le_trans Z222 (Keep.of_wr W225).1
      have N225 := Fr.snoc X225 N221 g_b217
      have go227 : Go p e below s₁ F0 T225 (mkF m 35 #[vi p1, vj q2, .second, vj q3, .second, vj q4, .second, vj q5, .second, vi p6, vi (2 : Int32), vi (0 : Int32), vr b217, .unset, .unset, .unset, .unset, .unset] []) := fun t_ k_ => go224 t_ (st225 t_ k_)
      have go228 : Go p e below s₁ F0 T225 (mkF m 36 #[vi p1, vj q2, .second, vj q3, .second, vj q4, .second, vj q5, .second, vi p6, vi (2 : Int32), vi (0 : Int32), vr b217, .unset, .unset, .unset, .unset, .unset] [(.int (2 : Int32))]) := by
        intro t_ k_
        refine go227 t_ ?_
        refine o_iconst X225 hx (hb hby at_35) (v := 2) rfl ?_
        exact k_
      obtain ⟨T229, h229, k229, X229, e229, E229, A229, st229⟩ := newP X225 hx hZ (own_w hw 0 rfl) e225 (g := (mkF m 36 #[vi p1, vj q2, .second, vj q3, .second, vj q4, .second, vj q5, .second, vi p6, vi (2 : Int32), vi (0 : Int32), vr b217, .unset, .unset, .unset, .unset, .unset] [(.int (2 : Int32))])) rfl (hb hby at_36) rfl (by decide) (cap := 2) (by decide) (by decide) (by decide) (by decide)
      obtain ⟨b229, gz229⟩ : ∃ z, z = h225.size := ⟨_, rfl⟩
      rw [← gz229] at A229 st229
      have ne230 : b217 ≠ b229 := Nat.ne_of_lt (Nat.lt_of_lt_of_le V225.lt (Nat.le_of_eq gz229.symm))
      have g_b229 : n0 ≤ b229 := Nat.le_trans Z226 (Nat.le_of_eq gz229.symm)
      have Z231 : n0 ≤ h229.size := Nat.le_trans Z226 E229.1
      have V229 : Arv Z h229 b229 k229 .long (2 : Int32) [(.long (0 : Int64)), (.long (0 : Int64))] (.long (0 : Int64)) := (Arv.new A229 (by decide)).pad (pad_rep [] (.long (0 : Int64)) 2)
      have go232 : Go p e below s₁ F0 T229 (mkF m 38 #[vi p1, vj q2, .second, vj q3, .second, vj q4, .second, vj q5, .second, vi p6, vi (2 : Int32), vi (0 : Int32), vr b217, .unset, .unset, .unset, .unset, .unset] [(.ref b229)]) := fun t_ k_ => go228 t_ (st229 t_ k_)
      have go233 : Go p e below s₁ F0 T229 (mkF m 63 #[vi p1, vj q2, .second, vj q3, .second, vj q4, .second, vj q5, .second, vi p6, vi (2 : Int32), vi (0 : Int32), vr b217, vr b229, .unset, .unset, .unset, .unset] [(.long q4), (.int (0 : Int32)), (.ref b229)]) := by
        intro t_ k_
        refine go232 t_ ?_
        refine o_astore X229 hx (hb hby at_38) rfl (L' := #[vi p1, vj q2, .second, vj q3, .second, vj q4, .second, vj q5, .second, vi p6, vi (2 : Int32), vi (0 : Int32), vr b217, vr b229, .unset, .unset, .unset, .unset]) rfl ?_
        refine o_iload X229 hx (hb hby at_40) rfl ?_
        refine o_ifYes X229 hx (hb hby at_42) (pc' := 58) rfl (by decide) ((if0 _ _).trans (teq (by decide : (0 : Int32) = (0 : Int32))).1) ?_
        refine o_aload X229 hx (hb hby at_58) rfl rfl ?_
        refine o_iconst X229 hx (hb hby at_60) (v := 0) rfl ?_
        refine o_lload X229 hx (hb hby at_61) rfl ?_
        exact k_
      obtain ⟨cl234, Ar234, q234, Sz234, Nn234, Hs234, G234⟩ := id V229
      have hin234 : ¬ ((0 : Int32) < 0 ∨ cl234.slots.size ≤ ((0 : Int32)).toNatClampNeg) := inb_of Sz234 ⟨by decide, by decide⟩
      obtain ⟨T234, h234, X234, e234, W234, st234⟩ := stJ X229 hx hZ e229 Ar234 (j := (0 : Int32)) hin234 (g := (mkF m 63 #[vi p1, vj q2, .second, vj q3, .second, vj q4, .second, vj q5, .second, vi p6, vi (2 : Int32), vi (0 : Int32), vr b217, vr b229, .unset, .unset, .unset, .unset] [(.long q4), (.int (0 : Int32)), (.ref b229)])) rfl rfl (hb hby at_63)
      have V234 : Arv Z h234 b229 k229 .long (2 : Int32) [(.long q4), (.long (0 : Int64))] (.long (0 : Int64)) := Arv.set Ar234 q234 Sz234 Nn234 Hs234 G234 rfl W234 0 rfl (Nat.le_of_ble_eq_true rfl)
      have Z235 : n0 ≤ h234.size := Nat.le_trans Z231 (Keep.of_wr W234).1
      have N234 := Fr.snoc X234 N225 g_b229
      have go236 : Go p e below s₁ F0 T234 (mkF m 64 #[vi p1, vj q2, .second, vj q3, .second, vj q4, .second, vj q5, .second, vi p6, vi (2 : Int32), vi (0 : Int32), vr b217, vr b229, .unset, .unset, .unset, .unset] []) := fun t_ k_ => go233 t_ (st234 t_ k_)
      have go237 : Go p e below s₁ F0 T234 (mkF m 69 #[vi p1, vj q2, .second, vj q3, .second, vj q4, .second, vj q5, .second, vi p6, vi (2 : Int32), vi (0 : Int32), vr b217, vr b229, .unset, .unset, .unset, .unset] [(.long q5), (.int (1 : Int32)), (.ref b229)]) := by
        intro t_ k_
        refine go236 t_ ?_
        refine o_aload X234 hx (hb hby at_64) rfl rfl ?_
        refine o_iconst X234 hx (hb hby at_66) (v := 1) rfl ?_
        refine o_lload X234 hx (hb hby at_67) rfl ?_
        exact k_
      obtain ⟨cl238, Ar238, q238, Sz238, Nn238, Hs238, G238⟩ := id V234
      have hin238 : ¬ ((1 : Int32) < 0 ∨ cl238.slots.size ≤ ((1 : Int32)).toNatClampNeg) := inb_of Sz238 ⟨by decide, by decide⟩
      obtain ⟨T238, h238, X238, e238, W238, st238⟩ := stJ X234 hx hZ e234 Ar238 (j := (1 : Int32)) hin238 (g := (mkF m 69 #[vi p1, vj q2, .second, vj q3, .second, vj q4, .second, vj q5, .second, vi p6, vi (2 : Int32), vi (0 : Int32), vr b217, vr b229, .unset, .unset, .unset, .unset] [(.long q5), (.int (1 : Int32)), (.ref b229)])) rfl rfl (hb hby at_69)
      have V238 : Arv Z h238 b229 k229 .long (2 : Int32) [(.long q4), (.long q5)] (.long (0 : Int64)) := Arv.set Ar238 q238 Sz238 Nn238 Hs238 G238 rfl W238 1 rfl (Nat.le_of_ble_eq_true rfl)
      have Z239 : n0 ≤ h238.size := Nat.le_trans Z235 (Keep.of_wr W238).1
      have N238 := Fr.snoc X238 N234 g_b229
      have go240 : Go p e below s₁ F0 T238 (mkF m 70 #[vi p1, vj q2, .second, vj q3, .second, vj q4, .second, vj q5, .second, vi p6, vi (2 : Int32), vi (0 : Int32), vr b217, vr b229, .unset, .unset, .unset, .unset] []) := fun t_ k_ => go237 t_ (st238 t_ k_)
      have go241 : Go p e below s₁ F0 T238 (mkF m 83 #[vi p1, vj q2, .second, vj q3, .second, vj q4, .second, vj q5, .second, vi p6, vi (2 : Int32), vi (0 : Int32), vr b217, vr b229, vi ((p6 &&& (2147483647 : Int32)) % (128 : Int32)), .unset, .unset, .unset] []) := by
        intro t_ k_
        refine go240 t_ ?_
        refine o_iload X238 hx (hb hby at_70) rfl ?_
        refine o_ldc X238 hx hown (mvT hZ (own_w hw 1 rfl)) (hb hby at_72) ?_
        refine o_iand X238 hx (hb hby at_74) ?_
        refine o_bipush X238 hx (hb hby at_75) (v := 64) rfl ?_
        refine o_iload X238 hx (hb hby at_77) rfl ?_
        refine o_imulE X238 hx (hb hby at_79) (v := 128) rfl ?_
        refine o_irem X238 hx (hb hby at_80) (by decide) ?_
        refine o_istore X238 hx (hb hby at_81) (L' := #[vi p1, vj q2, .second, vj q3, .second, vj q4, .second, vj q5, .second, vi p6, vi (2 : Int32), vi (0 : Int32), vr b217, vr b229, vi ((p6 &&& (2147483647 : Int32)) % (128 : Int32)), .unset, .unset, .unset]) rfl ?_
        exact k_
      obtain ⟨k, h_k⟩ : ∃ z : Int32, z = ((p6 &&& (2147483647 : Int32)) % (128 : Int32)) := ⟨_, rfl⟩
      have go242 : Go p e below s₁ F0 T238 (mkF m 83 #[vi p1, vj q2, .second, vj q3, .second, vj q4, .second, vj q5, .second, vi p6, vi (2 : Int32), vi (0 : Int32), vr b217, vr b229, vi k, .unset, .unset, .unset] []) := by rw [h_k]; exact go241
      obtain ⟨T243, h243, X243, e243, E243, A243, D243, -, st243⟩ := newO X238 hx hZ hown (own_w hw 2 rfl) (own_w hw 3 rfl) (own_w hw 4 rfl) e238 (g := (mkF m 83 #[vi p1, vj q2, .second, vj q3, .second, vj q4, .second, vj q5, .second, vi p6, vi (2 : Int32), vi (0 : Int32), vr b217, vr b229, vi k, .unset, .unset, .unset] [])) rfl (hb hby at_83) (by decide) (by decide)
      obtain ⟨b243, gz243⟩ : ∃ z, z = h238.size := ⟨_, rfl⟩
      rw [← gz243] at A243 D243 st243
      have F244 : Arv Z h238 b217 k217 .long (2 : Int32) [(.long q2), (.long q3)] (.long (0 : Int64)) := (((V225.ext E229).other W234 ne230).other W238 ne230)
      have ne245 : b217 ≠ b243 := Nat.ne_of_lt (Nat.lt_of_lt_of_le F244.lt (Nat.le_of_eq gz243.symm))
      have ne246 : b229 ≠ b243 := Nat.ne_of_lt (Nat.lt_of_lt_of_le V238.lt (Nat.le_of_eq gz243.symm))
      have g_b243 : n0 ≤ b243 := Nat.le_trans Z239 (Nat.le_of_eq gz243.symm)
      have Z247 : n0 ≤ h243.size := Nat.le_trans Z239 E243.1
      have F248 : Fld Z h243 b243 c_0 "width" "I" (.int (0 : Int32)) := D243 (Or.inr (own_w hw 12 rfl)) (ty := .int) (by decide)
      have F249 : Fld Z h243 b243 c_0 "words" "[J" .null := D243 (Or.inl (own_w hw 14 rfl)) (ty := (.array .long)) (by decide)
      have F250 : Fld Z h243 b243 c_0 "hashes" "[I" .null := D243 (Or.inl (own_w hw 17 rfl)) (ty := (.array .int)) (by decide)
      have F251 : Fld Z h243 b243 c_0 "slots" "[I" .null := D243 (Or.inl (own_w hw 19 rfl)) (ty := (.array .int)) (by decide)
      have F252 : Fld Z h243 b243 c_0 "count" "I" (.int (0 : Int32)) := D243 (Or.inl (own_w hw 38 rfl)) (ty := .int) (by decide)
      have go253 : Go p e below s₁ F0 T243 (mkF m 86 #[vi p1, vj q2, .second, vj q3, .second, vj q4, .second, vj q5, .second, vi p6, vi (2 : Int32), vi (0 : Int32), vr b217, vr b229, vi k, .unset, .unset, .unset] [(.ref b243)]) := fun t_ k_ => go242 t_ (st243 t_ k_)
      have go254 : Go p e below s₁ F0 T243 (mkF m 89 #[vi p1, vj q2, .second, vj q3, .second, vj q4, .second, vj q5, .second, vi p6, vi (2 : Int32), vi (0 : Int32), vr b217, vr b229, vi k, .unset, .unset, .unset] [(.int (2 : Int32)), (.ref b243), (.ref b243)]) := by
        intro t_ k_
        refine go253 t_ ?_
        refine o_dup X243 hx (hb hby at_86) rfl ?_
        refine o_iload X243 hx (hb hby at_87) rfl ?_
        exact k_
      obtain ⟨_, _, ⟨T255, L255, k255, n255⟩, -, X255, ⟨Lc255, hQ255, l255, y255, z255⟩, st255⟩ := X243.specialBack hx (y := y_2) rfl hown (mvT hZ (own_w hw 5 rfl)) (mvT hZ (own_w hw 6 rfl)) (mvT hZ (own_w hw 7 rfl)) (by decide) (backOf (W := 1) (rm1_w2 l Z a0 hw [] b243 h243 n0 Z247 A243 F248 F249 F250 F251 F252 g_b243) hZ (own_w hw 7 rfl) (own_w hw 4 rfl) (by decide) (by decide)) (g := (mkF m 89 #[vi p1, vj q2, .second, vj q3, .second, vj q4, .second, vj q5, .second, vi p6, vi (2 : Int32), vi (0 : Int32), vr b217, vr b229, vi k, .unset, .unset, .unset] [(.int (2 : Int32)), (.ref b243), (.ref b243)])) rfl (by rw [hml]; rfl) (Steps.refl _) (a := b243) (argsL := [(.int (2 : Int32))]) (rest := [(.ref b243)]) (lenOf pd0_0 rfl) rfl (by show 2 * 0 + _ ≤ _; exact Nat.le_of_eq rfl) (hb hby at_89) (fun _ _ => ⟨rfl, e243, (by decide : 3 + 3 ≤ _), (by decide : 9 + 80 ≤ _)⟩)
      dsimp only [Pt.U, Pt.locs, Pt.cells, Pt.slots] at X255 l255 y255 z255 st255 hQ255
      subst l255 y255 z255
      obtain ⟨bw_255, bh_255, bs_255, kw_255, kh_255, ks_255, rfl, Nq255, Kc255, hbw_255, hbh_255, hbs_255, nwh_255, nws_255, nhs_255, Fwi_255, Fwo_255, Fha_255, Fsl_255, Fco_255, Vw_255, Vh_255, Vs_255⟩ := hQ255
      have N255 := Fr.app N238 Nq255
      have F256 : Arv Z h243 b217 k217 .long (2 : Int32) [(.long q2), (.long q3)] (.long (0 : Int64)) := (F244.ext E243)
      have ne257 : b217 ≠ bw_255 := Nat.ne_of_lt (Nat.lt_of_lt_of_le F256.lt hbw_255)
      have F258 : Arv Z h243 b229 k229 .long (2 : Int32) [(.long q4), (.long q5)] (.long (0 : Int64)) := (V238.ext E243)
      have ne259 : b229 ≠ bw_255 := Nat.ne_of_lt (Nat.lt_of_lt_of_le F258.lt hbw_255)
      have ne260 : b243 ≠ bw_255 := Nat.ne_of_lt (Nat.lt_of_lt_of_le A243.lt hbw_255)
      have g_bw_255 : n0 ≤ bw_255 := Nat.le_trans Z247 hbw_255
      have ne261 : b217 ≠ bh_255 := Nat.ne_of_lt (Nat.lt_of_lt_of_le F256.lt hbh_255)
      have ne262 : b229 ≠ bh_255 := Nat.ne_of_lt (Nat.lt_of_lt_of_le F258.lt hbh_255)
      have ne263 : b243 ≠ bh_255 := Nat.ne_of_lt (Nat.lt_of_lt_of_le A243.lt hbh_255)
      have g_bh_255 : n0 ≤ bh_255 := Nat.le_trans Z247 hbh_255
      have ne264 : b217 ≠ bs_255 := Nat.ne_of_lt (Nat.lt_of_lt_of_le F256.lt hbs_255)
      have ne265 : b229 ≠ bs_255 := Nat.ne_of_lt (Nat.lt_of_lt_of_le F258.lt hbs_255)
      have ne266 : b243 ≠ bs_255 := Nat.ne_of_lt (Nat.lt_of_lt_of_le A243.lt hbs_255)
      have g_bs_255 : n0 ≤ bs_255 := Nat.le_trans Z247 hbs_255
      have Z267 : n0 ≤ T255.heap.size := Nat.le_trans Z247 Kc255.1
      have go268 : Go p e below s₁ F0 T255 (mkF m 92 #[vi p1, vj q2, .second, vj q3, .second, vj q4, .second, vj q5, .second, vi p6, vi (2 : Int32), vi (0 : Int32), vr b217, vr b229, vi k, .unset, .unset, .unset] [(.ref b243)]) := fun t_ k_ => go254 t_ (st255.trans k_)
      have F269 : Exa Z T255.heap b243 c_0 := (A243.keep Kc255)
      have F270 : Arv Z T255.heap b217 k217 .long (2 : Int32) [(.long q2), (.long q3)] (.long (0 : Int64)) := (F256.keep Kc255 (ninS ne245 nin0))
      have go271 : Go p e below s₁ F0 T255 (mkF m 98 #[vi p1, vj q2, .second, vj q3, .second, vj q4, .second, vj q5, .second, vi p6, vi (2 : Int32), vi (0 : Int32), vr b217, vr b229, vi k, vr b243, .unset, .unset] [(.ref b217), (.ref b243)]) := by
        intro t_ k_
        refine go268 t_ ?_
        refine o_astore X255 hx (hb hby at_92) rfl (L' := #[vi p1, vj q2, .second, vj q3, .second, vj q4, .second, vj q5, .second, vi p6, vi (2 : Int32), vi (0 : Int32), vr b217, vr b229, vi k, vr b243, .unset, .unset]) rfl ?_
        refine o_aload X255 hx (hb hby at_94) rfl rfl ?_
        refine o_aload X255 hx (hb hby at_96) rfl rfl ?_
        exact k_
      obtain ⟨cq272, kq272, q272a, q272b, q272c⟩ := isOf hZ rfl F269
      obtain ⟨_, _, ⟨T272, L272, k272, n272⟩, -, X272, ⟨Lc272, hQ272, l272, y272, z272⟩, st272⟩ := X255.virtualBack hx (y := y_4) (z := y_4) hown (mvT hZ (own_w hw 20 rfl)) (mvT hZ (own_w hw 21 rfl)) (notFace_of_selects (args := #[]) (mvT hZ (own_w hw 23 rfl))) (mvT hZ (own_w hw 23 rfl)) (mvT hZ (own_w hw 22 rfl)) (by decide) (backOf (W := 0) (rm3_a2 l Z a0 hw [] b243 b217 bw_255 bh_255 bs_255 kw_255 kh_255 ks_255 k217 q2 q3 (T255.heap) n0 Z267 F269 Fwi_255 Fwo_255 Fha_255 Fsl_255 Fco_255 Vw_255 Vh_255 Vs_255 F270 g_b243 g_bw_255 g_bh_255 g_bs_255 ne260 ne263 ne266 ne257 ne261 ne264 (Ne.symm ne245) nwh_255 nws_255 nhs_255) hZ (own_w hw 24 rfl) (own_w hw 4 rfl) (by decide) (by decide)) q272a q272c (g := (mkF m 98 #[vi p1, vj q2, .second, vj q3, .second, vj q4, .second, vj q5, .second, vi p6, vi (2 : Int32), vi (0 : Int32), vr b217, vr b229, vi k, vr b243, .unset, .unset] [(.ref b217), (.ref b243)])) rfl (by rw [hml]; rfl) (Steps.refl _) (argsL := [(.ref b217)]) (rest := []) (lenOf pd0_1 rfl) rfl (by show 2 * 0 + _ ≤ _; exact Nat.le_of_eq rfl) (hb hby at_98) (fun _ _ => ⟨rfl, rfl, (by decide : 6 + 0 ≤ _), (by decide : 89 + 0 ≤ _)⟩)
      dsimp only [Pt.U, Pt.locs, Pt.cells, Pt.slots] at X272 l272 y272 z272 st272 hQ272
      subst l272 y272 z272
      obtain ⟨hs_272, sl_272, rfl, Nq272, Kc272, Fwi_272, Fwo_272, Fha_272, Fsl_272, Fco_272, Vw_272, Vh_272, Vs_272, hhs_272, hsl_272⟩ := hQ272
      have N272 := Fr.app N255 Nq272
      have Z273 : n0 ≤ T272.heap.size := Nat.le_trans Z267 Kc272.1
      have go274 : Go p e below s₁ F0 T272 (mkF m 101 #[vi p1, vj q2, .second, vj q3, .second, vj q4, .second, vj q5, .second, vi p6, vi (2 : Int32), vi (0 : Int32), vr b217, vr b229, vi k, vr b243, .unset, .unset] [(.int (0 : Int32))]) := fun t_ k_ => go271 t_ (st272.trans k_)
      have F275 : Exa Z T272.heap b243 c_0 := (F269.keep Kc272)
      have F276 : Arv Z T272.heap b229 k229 .long (2 : Int32) [(.long q4), (.long q5)] (.long (0 : Int64)) := ((F258.keep Kc255 (ninS ne246 nin0)).keep Kc272 (ninS ne246 (ninS ne259 (ninS ne262 (ninS ne265 nin0)))))
      have go277 : Go p e below s₁ F0 T272 (mkF m 107 #[vi p1, vj q2, .second, vj q3, .second, vj q4, .second, vj q5, .second, vi p6, vi (2 : Int32), vi (0 : Int32), vr b217, vr b229, vi k, vr b243, vi (0 : Int32), .unset] [(.ref b229), (.ref b243)]) := by
        intro t_ k_
        refine go274 t_ ?_
        refine o_istore X272 hx (hb hby at_101) (L' := #[vi p1, vj q2, .second, vj q3, .second, vj q4, .second, vj q5, .second, vi p6, vi (2 : Int32), vi (0 : Int32), vr b217, vr b229, vi k, vr b243, vi (0 : Int32), .unset]) rfl ?_
        refine o_aload X272 hx (hb hby at_103) rfl rfl ?_
        refine o_aload X272 hx (hb hby at_105) rfl rfl ?_
        exact k_
      obtain ⟨cq278, kq278, q278a, q278b, q278c⟩ := isOf hZ rfl F275
      obtain ⟨_, _, ⟨T278, L278, k278, n278⟩, -, X278, ⟨Lc278, hQ278, l278, y278, z278⟩, st278⟩ := X272.virtualBack hx (y := y_4) (z := y_4) hown (mvT hZ (own_w hw 20 rfl)) (mvT hZ (own_w hw 21 rfl)) (notFace_of_selects (args := #[]) (mvT hZ (own_w hw 23 rfl))) (mvT hZ (own_w hw 23 rfl)) (mvT hZ (own_w hw 22 rfl)) (by decide) (backOf (W := 0) (rm3_b2 l Z a0 hw [] b243 b229 bw_255 bh_255 bs_255 kw_255 kh_255 ks_255 k229 hs_272 sl_272 q2 q3 q4 q5 (T272.heap) n0 Z273 F275 Fwi_272 Fwo_272 Fha_272 Fsl_272 Fco_272 Vw_272 Vh_272 Vs_272 F276 g_b243 g_bw_255 g_bh_255 g_bs_255 ne260 ne263 ne266 ne259 ne262 ne265 (Ne.symm ne246) nwh_255 nws_255 nhs_255 hhs_272 hsl_272) hZ (own_w hw 24 rfl) (own_w hw 4 rfl) (by decide) (by decide)) q278a q278c (g := (mkF m 107 #[vi p1, vj q2, .second, vj q3, .second, vj q4, .second, vj q5, .second, vi p6, vi (2 : Int32), vi (0 : Int32), vr b217, vr b229, vi k, vr b243, vi (0 : Int32), .unset] [(.ref b229), (.ref b243)])) rfl (by rw [hml]; rfl) (Steps.refl _) (argsL := [(.ref b229)]) (rest := []) (lenOf pd0_1 rfl) rfl (by show 2 * 0 + _ ≤ _; exact Nat.le_of_eq rfl) (hb hby at_107) (fun _ _ => ⟨rfl, rfl, (by decide : 6 + 0 ≤ _), (by decide : 89 + 0 ≤ _)⟩)
      dsimp only [Pt.U, Pt.locs, Pt.cells, Pt.slots] at X278 l278 y278 z278 st278 hQ278
      subst l278 y278 z278
      obtain ⟨n_278, w0_278, w1_278, rfl, Nq278, Kc278, Fwi_278, Fwo_278, Vw_278, hP_278⟩ := hQ278
      have N278 := Fr.app N272 Nq278
      have Z279 : n0 ≤ T278.heap.size := Nat.le_trans Z273 Kc278.1
      have go280 : Go p e below s₁ F0 T278 (mkF m 110 #[vi p1, vj q2, .second, vj q3, .second, vj q4, .second, vj q5, .second, vi p6, vi (2 : Int32), vi (0 : Int32), vr b217, vr b229, vi k, vr b243, vi (0 : Int32), .unset] [(.int n_278)]) := fun t_ k_ => go277 t_ (st278.trans k_)
      have hcs281 : n_278 = (0 : Int32) ∨ n_278 = (1 : Int32) := own_or hP_278
      rcases hcs281 with hcs281 | hcs281
      · skip
        have go282 : Go p e below s₁ F0 T278 (mkF m 110 #[vi p1, vj q2, .second, vj q3, .second, vj q4, .second, vj q5, .second, vi p6, vi (2 : Int32), vi (0 : Int32), vr b217, vr b229, vi k, vr b243, vi (0 : Int32), .unset] [(.int (0 : Int32))]) := by rw [hcs281] at go280; exact go280
        have go283 : Go p e below s₁ F0 T278 (mkF m 112 #[vi p1, vj q2, .second, vj q3, .second, vj q4, .second, vj q5, .second, vi p6, vi (2 : Int32), vi (0 : Int32), vr b217, vr b229, vi k, vr b243, vi (0 : Int32), vi (0 : Int32)] []) := by
          intro t_ k_
          refine go282 t_ ?_
          refine o_istore X278 hx (hb hby at_110) (L' := #[vi p1, vj q2, .second, vj q3, .second, vj q4, .second, vj q5, .second, vi p6, vi (2 : Int32), vi (0 : Int32), vr b217, vr b229, vi k, vr b243, vi (0 : Int32), vi (0 : Int32)]) rfl ?_
          exact k_
        by_cases hb112_284 : k < (64 : Int32)
        · skip
          have go285 : Go p e below s₁ F0 T278 (mkF m 118 #[vi p1, vj q2, .second, vj q3, .second, vj q4, .second, vj q5, .second, vi p6, vi (2 : Int32), vi (0 : Int32), vr b217, vr b229, vi k, vr b243, vi (0 : Int32), vi (0 : Int32)] [(.int k), (.int (0 : Int32)), (.ref b243)]) := by
            intro t_ k_
            refine go283 t_ ?_
            refine o_aload X278 hx (hb hby at_112) rfl rfl ?_
            refine o_iload X278 hx (hb hby at_114) rfl ?_
            refine o_iload X278 hx (hb hby at_116) rfl ?_
            exact k_
          have F287 : Exa Z T278.heap b243 c_0 := (F275.keep Kc278)
          obtain ⟨cq286, kq286, q286a, q286b, q286c⟩ := isOf hZ rfl F287
          obtain ⟨_, _, ⟨T286, L286, k286, n286⟩, -, X286, ⟨Lc286, hQ286, l286, y286, z286⟩, st286⟩ := X278.virtualBack hx (y := y_6) (z := y_6) hown (mvT hZ (own_w hw 47 rfl)) (mvT hZ (own_w hw 48 rfl)) (notFace_of_selects (args := #[]) (mvT hZ (own_w hw 50 rfl))) (mvT hZ (own_w hw 50 rfl)) (mvT hZ (own_w hw 49 rfl)) (by decide) (backOf (W := 0) (rm8_2_0_0 l Z a0 hw [] b243 k bw_255 kw_255 q2 q3 w0_278 w1_278 (T278.heap) n0 Z279 Fwi_278 Fwo_278 Vw_278 (own_d0 (own_k128 h_k).1 hb112_284)) hZ (own_w hw 51 rfl) (own_w hw 4 rfl) (by decide) (by decide)) q286a q286c (g := (mkF m 118 #[vi p1, vj q2, .second, vj q3, .second, vj q4, .second, vj q5, .second, vi p6, vi (2 : Int32), vi (0 : Int32), vr b217, vr b229, vi k, vr b243, vi (0 : Int32), vi (0 : Int32)] [(.int k), (.int (0 : Int32)), (.ref b243)])) rfl (by rw [hml]; rfl) (Steps.refl _) (argsL := [(.int (0 : Int32)), (.int k)]) (rest := []) (lenOf pd0_2 rfl) rfl (by show 2 * 0 + _ ≤ _; exact Nat.le_of_eq rfl) (hb hby at_118) (fun _ _ => ⟨rfl, rfl, (by decide : 6 + 0 ≤ _), (by decide : 89 + 0 ≤ _)⟩)
          dsimp only [Pt.U, Pt.locs, Pt.cells, Pt.slots] at X286 l286 y286 z286 st286 hQ286
          subst l286 y286 z286
          obtain ⟨rfl, Nq286, eh286⟩ := hQ286
          have N286 := Fr.app N278 Nq286
          have go288 : Go p e below s₁ F0 T286 (mkF m 121 #[vi p1, vj q2, .second, vj q3, .second, vj q4, .second, vj q5, .second, vi p6, vi (2 : Int32), vi (0 : Int32), vr b217, vr b229, vi k, vr b243, vi (0 : Int32), vi (0 : Int32)] [(.int (f8_2_0_0 k q2 q3 w0_278 w1_278))]) := fun t_ k_ => go285 t_ (st286.trans k_)
          have F289 : Arv Z T278.heap b217 k217 .long (2 : Int32) [(.long q2), (.long q3)] (.long (0 : Int64)) := ((F270.keep Kc272 (ninS ne245 (ninS ne257 (ninS ne261 (ninS ne264 nin0))))).keep Kc278 (ninS ne245 (ninS ne257 (ninS ne261 (ninS ne264 nin0)))))
          have go290 : Go p e below s₁ F0 T286 (mkF m 125 #[vi p1, vj q2, .second, vj q3, .second, vj q4, .second, vj q5, .second, vi p6, vi (2 : Int32), vi (0 : Int32), vr b217, vr b229, vi k, vr b243, vi (0 : Int32), vi (0 : Int32)] [(.int k), (.ref b217), (.int (f8_2_0_0 k q2 q3 w0_278 w1_278))]) := by
            intro t_ k_
            refine go288 t_ ?_
            refine o_aload X286 hx (hb hby at_121) rfl rfl ?_
            refine o_iload X286 hx (hb hby at_123) rfl ?_
            exact k_
          obtain ⟨_, _, ⟨T291, L291, k291, n291⟩, -, X291, ⟨Lc291, hQ291, l291, y291, z291⟩, st291⟩ := Jvm.LawKit.callS X286 hx (y := y_7) hown (mvT hZ (own_w hw 52 rfl)) (mvT hZ (own_w hw 53 rfl)) (mvT hZ (own_w hw 54 rfl)) (mvT hZ (own_w hw 55 rfl)) (by decide) (backOf (W := 1) (rm9_0 l Z a0 hw [] b217 k k217 q2 q3 (T278.heap) n0 Z279 F289 hb112_284) hZ (own_w hw 55 rfl) (own_w hw 54 rfl) (by decide) (by decide)) (g := (mkF m 125 #[vi p1, vj q2, .second, vj q3, .second, vj q4, .second, vj q5, .second, vi p6, vi (2 : Int32), vi (0 : Int32), vr b217, vr b229, vi k, vr b243, vi (0 : Int32), vi (0 : Int32)] [(.int k), (.ref b217), (.int (f8_2_0_0 k q2 q3 w0_278 w1_278))])) rfl (by rw [hml]; rfl) (argsL := [(.ref b217), (.int k)]) (rest := [(.int (f8_2_0_0 k q2 q3 w0_278 w1_278))]) (lenOf pd0_3 rfl) rfl (by show 2 * 0 + _ ≤ _; exact Nat.le_of_eq rfl) (hb hby at_125) (fun _ _ => ⟨rfl, eh286, (by decide : 6 + 0 ≤ _), (by decide : 89 + 0 ≤ _)⟩)
          dsimp only [Pt.U, Pt.locs, Pt.cells, Pt.slots] at X291 l291 y291 z291 st291 hQ291
          subst l291 y291 z291
          obtain ⟨rfl, Nq291, eh291⟩ := hQ291
          have N291 := Fr.app N286 Nq291
          have go292 : Go p e below s₁ F0 T291 (mkF m 128 #[vi p1, vj q2, .second, vj q3, .second, vj q4, .second, vj q5, .second, vi p6, vi (2 : Int32), vi (0 : Int32), vr b217, vr b229, vi k, vr b243, vi (0 : Int32), vi (0 : Int32)] [(.int (f9_0 k q2 q3)), (.int (f8_2_0_0 k q2 q3 w0_278 w1_278))]) := fun t_ k_ => go290 t_ (st291 t_ k_)
          have hd293 : (f8_2_0_0 k q2 q3 w0_278 w1_278) = (f9_0 k q2 q3) := own_bit _ _
          have go294 : Go p e below s₁ F0 T291 (mkF m 137 #[vi p1, vj q2, .second, vj q3, .second, vj q4, .second, vj q5, .second, vi p6, vi (2 : Int32), vi (0 : Int32), vr b217, vr b229, vi k, vr b243, vi (0 : Int32), vi (0 : Int32)] [(.int k), (.int (0 : Int32)), (.ref b243)]) := by
            intro t_ k_
            refine go292 t_ ?_
            refine o_icmpNo X291 hx (hb hby at_128) (teq hd293).2 ?_
            refine o_aload X291 hx (hb hby at_131) rfl rfl ?_
            refine o_iload X291 hx (hb hby at_133) rfl ?_
            refine o_iload X291 hx (hb hby at_135) rfl ?_
            exact k_
          obtain ⟨cq295, kq295, q295a, q295b, q295c⟩ := isOf hZ eh291 F287
          obtain ⟨_, _, ⟨T295, L295, k295, n295⟩, -, X295, ⟨Lc295, hQ295, l295, y295, z295⟩, st295⟩ := X291.virtualBack hx (y := y_6) (z := y_6) hown (mvT hZ (own_w hw 47 rfl)) (mvT hZ (own_w hw 48 rfl)) (notFace_of_selects (args := #[]) (mvT hZ (own_w hw 50 rfl))) (mvT hZ (own_w hw 50 rfl)) (mvT hZ (own_w hw 49 rfl)) (by decide) (backOf (W := 0) (rm8_2_0_0 l Z a0 hw [] b243 k bw_255 kw_255 q2 q3 w0_278 w1_278 (T278.heap) n0 Z279 Fwi_278 Fwo_278 Vw_278 (own_d0 (own_k128 h_k).1 hb112_284)) hZ (own_w hw 51 rfl) (own_w hw 4 rfl) (by decide) (by decide)) q295a q295c (g := (mkF m 137 #[vi p1, vj q2, .second, vj q3, .second, vj q4, .second, vj q5, .second, vi p6, vi (2 : Int32), vi (0 : Int32), vr b217, vr b229, vi k, vr b243, vi (0 : Int32), vi (0 : Int32)] [(.int k), (.int (0 : Int32)), (.ref b243)])) rfl (by rw [hml]; rfl) (Steps.refl _) (argsL := [(.int (0 : Int32)), (.int k)]) (rest := []) (lenOf pd0_2 rfl) rfl (by show 2 * 0 + _ ≤ _; exact Nat.le_of_eq rfl) (hb hby at_137) (fun _ _ => ⟨rfl, eh291, (by decide : 6 + 0 ≤ _), (by decide : 89 + 0 ≤ _)⟩)
          dsimp only [Pt.U, Pt.locs, Pt.cells, Pt.slots] at X295 l295 y295 z295 st295 hQ295
          subst l295 y295 z295
          obtain ⟨rfl, Nq295, eh295⟩ := hQ295
          have N295 := Fr.app N291 Nq295
          have go296 : Go p e below s₁ F0 T295 (mkF m 140 #[vi p1, vj q2, .second, vj q3, .second, vj q4, .second, vj q5, .second, vi p6, vi (2 : Int32), vi (0 : Int32), vr b217, vr b229, vi k, vr b243, vi (0 : Int32), vi (0 : Int32)] [(.int (f8_2_0_0 k q2 q3 w0_278 w1_278))]) := fun t_ k_ => go294 t_ (st295.trans k_)
          have F297 : Arv Z T278.heap b229 k229 .long (2 : Int32) [(.long q4), (.long q5)] (.long (0 : Int64)) := (F276.keep Kc278 (ninS ne246 (ninS ne259 (ninS ne262 (ninS ne265 nin0)))))
          have go298 : Go p e below s₁ F0 T295 (mkF m 144 #[vi p1, vj q2, .second, vj q3, .second, vj q4, .second, vj q5, .second, vi p6, vi (2 : Int32), vi (0 : Int32), vr b217, vr b229, vi k, vr b243, vi (0 : Int32), vi (0 : Int32)] [(.int k), (.ref b229), (.int (f8_2_0_0 k q2 q3 w0_278 w1_278))]) := by
            intro t_ k_
            refine go296 t_ ?_
            refine o_aload X295 hx (hb hby at_140) rfl rfl ?_
            refine o_iload X295 hx (hb hby at_142) rfl ?_
            exact k_
          obtain ⟨_, _, ⟨T299, L299, k299, n299⟩, -, X299, ⟨Lc299, hQ299, l299, y299, z299⟩, st299⟩ := Jvm.LawKit.callS X295 hx (y := y_7) hown (mvT hZ (own_w hw 52 rfl)) (mvT hZ (own_w hw 53 rfl)) (mvT hZ (own_w hw 54 rfl)) (mvT hZ (own_w hw 55 rfl)) (by decide) (backOf (W := 1) (rm9_0 l Z a0 hw [] b229 k k229 q4 q5 (T278.heap) n0 Z279 F297 hb112_284) hZ (own_w hw 55 rfl) (own_w hw 54 rfl) (by decide) (by decide)) (g := (mkF m 144 #[vi p1, vj q2, .second, vj q3, .second, vj q4, .second, vj q5, .second, vi p6, vi (2 : Int32), vi (0 : Int32), vr b217, vr b229, vi k, vr b243, vi (0 : Int32), vi (0 : Int32)] [(.int k), (.ref b229), (.int (f8_2_0_0 k q2 q3 w0_278 w1_278))])) rfl (by rw [hml]; rfl) (argsL := [(.ref b229), (.int k)]) (rest := [(.int (f8_2_0_0 k q2 q3 w0_278 w1_278))]) (lenOf pd0_3 rfl) rfl (by show 2 * 0 + _ ≤ _; exact Nat.le_of_eq rfl) (hb hby at_144) (fun _ _ => ⟨rfl, eh295, (by decide : 6 + 0 ≤ _), (by decide : 89 + 0 ≤ _)⟩)
          dsimp only [Pt.U, Pt.locs, Pt.cells, Pt.slots] at X299 l299 y299 z299 st299 hQ299
          subst l299 y299 z299
          obtain ⟨rfl, Nq299, eh299⟩ := hQ299
          have N299 := Fr.app N295 Nq299
          have go300 : Go p e below s₁ F0 T299 (mkF m 147 #[vi p1, vj q2, .second, vj q3, .second, vj q4, .second, vj q5, .second, vi p6, vi (2 : Int32), vi (0 : Int32), vr b217, vr b229, vi k, vr b243, vi (0 : Int32), vi (0 : Int32)] [(.int (f9_0 k q4 q5)), (.int (f8_2_0_0 k q2 q3 w0_278 w1_278))]) := fun t_ k_ => go298 t_ (st299 t_ k_)
          have hd301 : (f8_2_0_0 k q2 q3 w0_278 w1_278) = (f9_0 k q4 q5) := (by rw [← (own_l hP_278 hcs281).1]; exact own_bit _ _)
          have go302 : Go p e below s₁ F0 T299 (mkF m 155 #[vi p1, vj q2, .second, vj q3, .second, vj q4, .second, vj q5, .second, vi p6, vi (2 : Int32), vi (0 : Int32), vr b217, vr b229, vi k, vr b243, vi (0 : Int32), vi (0 : Int32)] [(.int (1 : Int32))]) := by
            intro t_ k_
            refine go300 t_ ?_
            refine o_icmpNo X299 hx (hb hby at_147) (teq hd301).2 ?_
            refine o_iconst X299 hx (hb hby at_150) (v := 1) rfl ?_
            refine o_goto X299 hx (hb hby at_151) (pc' := 155) rfl (by decide) ?_
            exact k_
          obtain ⟨fs, hr, hrun, hended, hW, hsame⟩ := X299.leave (v := some (.int (1 : Int32))) (fun h => by rw [Bd.returns] at h; cases h)
          refine ⟨_, _, pre0 _ (go302 _ ?_), hrun, hended, _, _, rfl, ?_, ⟨_, rfl⟩, hW, hsame.mono (by decide) (by decide)⟩
          · skip
            exact retN X299 hx (t := .boolean) Bd.returns (by simp) (hb hby at_155) hr
          · show Q0 Z p1 q2 q3 q4 q5 p6 h0 n0 _ T299.heap _
            rw [eh299]
            exact ⟨rfl, N299⟩
        · skip
          have go303 : Go p e below s₁ F0 T278 (mkF m 118 #[vi p1, vj q2, .second, vj q3, .second, vj q4, .second, vj q5, .second, vi p6, vi (2 : Int32), vi (0 : Int32), vr b217, vr b229, vi k, vr b243, vi (0 : Int32), vi (0 : Int32)] [(.int k), (.int (0 : Int32)), (.ref b243)]) := by
            intro t_ k_
            refine go283 t_ ?_
            refine o_aload X278 hx (hb hby at_112) rfl rfl ?_
            refine o_iload X278 hx (hb hby at_114) rfl ?_
            refine o_iload X278 hx (hb hby at_116) rfl ?_
            exact k_
          have F305 : Exa Z T278.heap b243 c_0 := (F275.keep Kc278)
          obtain ⟨cq304, kq304, q304a, q304b, q304c⟩ := isOf hZ rfl F305
          obtain ⟨_, _, ⟨T304, L304, k304, n304⟩, -, X304, ⟨Lc304, hQ304, l304, y304, z304⟩, st304⟩ := X278.virtualBack hx (y := y_6) (z := y_6) hown (mvT hZ (own_w hw 47 rfl)) (mvT hZ (own_w hw 48 rfl)) (notFace_of_selects (args := #[]) (mvT hZ (own_w hw 50 rfl))) (mvT hZ (own_w hw 50 rfl)) (mvT hZ (own_w hw 49 rfl)) (by decide) (backOf (W := 0) (rm8_2_0_1 l Z a0 hw [] b243 k bw_255 kw_255 q2 q3 w0_278 w1_278 (T278.heap) n0 Z279 Fwi_278 Fwo_278 Vw_278 (own_d1 (own_k128 h_k).2 hb112_284)) hZ (own_w hw 51 rfl) (own_w hw 4 rfl) (by decide) (by decide)) q304a q304c (g := (mkF m 118 #[vi p1, vj q2, .second, vj q3, .second, vj q4, .second, vj q5, .second, vi p6, vi (2 : Int32), vi (0 : Int32), vr b217, vr b229, vi k, vr b243, vi (0 : Int32), vi (0 : Int32)] [(.int k), (.int (0 : Int32)), (.ref b243)])) rfl (by rw [hml]; rfl) (Steps.refl _) (argsL := [(.int (0 : Int32)), (.int k)]) (rest := []) (lenOf pd0_2 rfl) rfl (by show 2 * 0 + _ ≤ _; exact Nat.le_of_eq rfl) (hb hby at_118) (fun _ _ => ⟨rfl, rfl, (by decide : 6 + 0 ≤ _), (by decide : 89 + 0 ≤ _)⟩)
          dsimp only [Pt.U, Pt.locs, Pt.cells, Pt.slots] at X304 l304 y304 z304 st304 hQ304
          subst l304 y304 z304
          obtain ⟨rfl, Nq304, eh304⟩ := hQ304
          have N304 := Fr.app N278 Nq304
          have go306 : Go p e below s₁ F0 T304 (mkF m 121 #[vi p1, vj q2, .second, vj q3, .second, vj q4, .second, vj q5, .second, vi p6, vi (2 : Int32), vi (0 : Int32), vr b217, vr b229, vi k, vr b243, vi (0 : Int32), vi (0 : Int32)] [(.int (f8_2_0_1 k q2 q3 w0_278 w1_278))]) := fun t_ k_ => go303 t_ (st304.trans k_)
          have F307 : Arv Z T278.heap b217 k217 .long (2 : Int32) [(.long q2), (.long q3)] (.long (0 : Int64)) := ((F270.keep Kc272 (ninS ne245 (ninS ne257 (ninS ne261 (ninS ne264 nin0))))).keep Kc278 (ninS ne245 (ninS ne257 (ninS ne261 (ninS ne264 nin0)))))
          have go308 : Go p e below s₁ F0 T304 (mkF m 125 #[vi p1, vj q2, .second, vj q3, .second, vj q4, .second, vj q5, .second, vi p6, vi (2 : Int32), vi (0 : Int32), vr b217, vr b229, vi k, vr b243, vi (0 : Int32), vi (0 : Int32)] [(.int k), (.ref b217), (.int (f8_2_0_1 k q2 q3 w0_278 w1_278))]) := by
            intro t_ k_
            refine go306 t_ ?_
            refine o_aload X304 hx (hb hby at_121) rfl rfl ?_
            refine o_iload X304 hx (hb hby at_123) rfl ?_
            exact k_
          obtain ⟨_, _, ⟨T309, L309, k309, n309⟩, -, X309, ⟨Lc309, hQ309, l309, y309, z309⟩, st309⟩ := Jvm.LawKit.callS X304 hx (y := y_7) hown (mvT hZ (own_w hw 52 rfl)) (mvT hZ (own_w hw 53 rfl)) (mvT hZ (own_w hw 54 rfl)) (mvT hZ (own_w hw 55 rfl)) (by decide) (backOf (W := 1) (rm9_1 l Z a0 hw [] b217 k k217 q2 q3 (T278.heap) n0 Z279 F307 hb112_284) hZ (own_w hw 55 rfl) (own_w hw 54 rfl) (by decide) (by decide)) (g := (mkF m 125 #[vi p1, vj q2, .second, vj q3, .second, vj q4, .second, vj q5, .second, vi p6, vi (2 : Int32), vi (0 : Int32), vr b217, vr b229, vi k, vr b243, vi (0 : Int32), vi (0 : Int32)] [(.int k), (.ref b217), (.int (f8_2_0_1 k q2 q3 w0_278 w1_278))])) rfl (by rw [hml]; rfl) (argsL := [(.ref b217), (.int k)]) (rest := [(.int (f8_2_0_1 k q2 q3 w0_278 w1_278))]) (lenOf pd0_3 rfl) rfl (by show 2 * 0 + _ ≤ _; exact Nat.le_of_eq rfl) (hb hby at_125) (fun _ _ => ⟨rfl, eh304, (by decide : 6 + 0 ≤ _), (by decide : 89 + 0 ≤ _)⟩)
          dsimp only [Pt.U, Pt.locs, Pt.cells, Pt.slots] at X309 l309 y309 z309 st309 hQ309
          subst l309 y309 z309
          obtain ⟨rfl, Nq309, eh309⟩ := hQ309
          have N309 := Fr.app N304 Nq309
          have go310 : Go p e below s₁ F0 T309 (mkF m 128 #[vi p1, vj q2, .second, vj q3, .second, vj q4, .second, vj q5, .second, vi p6, vi (2 : Int32), vi (0 : Int32), vr b217, vr b229, vi k, vr b243, vi (0 : Int32), vi (0 : Int32)] [(.int (f9_1 k q2 q3)), (.int (f8_2_0_1 k q2 q3 w0_278 w1_278))]) := fun t_ k_ => go308 t_ (st309 t_ k_)
          have hd311 : (f8_2_0_1 k q2 q3 w0_278 w1_278) = (f9_1 k q2 q3) := own_bit _ _
          have go312 : Go p e below s₁ F0 T309 (mkF m 137 #[vi p1, vj q2, .second, vj q3, .second, vj q4, .second, vj q5, .second, vi p6, vi (2 : Int32), vi (0 : Int32), vr b217, vr b229, vi k, vr b243, vi (0 : Int32), vi (0 : Int32)] [(.int k), (.int (0 : Int32)), (.ref b243)]) := by
            intro t_ k_
            refine go310 t_ ?_
            refine o_icmpNo X309 hx (hb hby at_128) (teq hd311).2 ?_
            refine o_aload X309 hx (hb hby at_131) rfl rfl ?_
            refine o_iload X309 hx (hb hby at_133) rfl ?_
            refine o_iload X309 hx (hb hby at_135) rfl ?_
            exact k_
          obtain ⟨cq313, kq313, q313a, q313b, q313c⟩ := isOf hZ eh309 F305
          obtain ⟨_, _, ⟨T313, L313, k313, n313⟩, -, X313, ⟨Lc313, hQ313, l313, y313, z313⟩, st313⟩ := X309.virtualBack hx (y := y_6) (z := y_6) hown (mvT hZ (own_w hw 47 rfl)) (mvT hZ (own_w hw 48 rfl)) (notFace_of_selects (args := #[]) (mvT hZ (own_w hw 50 rfl))) (mvT hZ (own_w hw 50 rfl)) (mvT hZ (own_w hw 49 rfl)) (by decide) (backOf (W := 0) (rm8_2_0_1 l Z a0 hw [] b243 k bw_255 kw_255 q2 q3 w0_278 w1_278 (T278.heap) n0 Z279 Fwi_278 Fwo_278 Vw_278 (own_d1 (own_k128 h_k).2 hb112_284)) hZ (own_w hw 51 rfl) (own_w hw 4 rfl) (by decide) (by decide)) q313a q313c (g := (mkF m 137 #[vi p1, vj q2, .second, vj q3, .second, vj q4, .second, vj q5, .second, vi p6, vi (2 : Int32), vi (0 : Int32), vr b217, vr b229, vi k, vr b243, vi (0 : Int32), vi (0 : Int32)] [(.int k), (.int (0 : Int32)), (.ref b243)])) rfl (by rw [hml]; rfl) (Steps.refl _) (argsL := [(.int (0 : Int32)), (.int k)]) (rest := []) (lenOf pd0_2 rfl) rfl (by show 2 * 0 + _ ≤ _; exact Nat.le_of_eq rfl) (hb hby at_137) (fun _ _ => ⟨rfl, eh309, (by decide : 6 + 0 ≤ _), (by decide : 89 + 0 ≤ _)⟩)
          dsimp only [Pt.U, Pt.locs, Pt.cells, Pt.slots] at X313 l313 y313 z313 st313 hQ313
          subst l313 y313 z313
          obtain ⟨rfl, Nq313, eh313⟩ := hQ313
          have N313 := Fr.app N309 Nq313
          have go314 : Go p e below s₁ F0 T313 (mkF m 140 #[vi p1, vj q2, .second, vj q3, .second, vj q4, .second, vj q5, .second, vi p6, vi (2 : Int32), vi (0 : Int32), vr b217, vr b229, vi k, vr b243, vi (0 : Int32), vi (0 : Int32)] [(.int (f8_2_0_1 k q2 q3 w0_278 w1_278))]) := fun t_ k_ => go312 t_ (st313.trans k_)
          have F315 : Arv Z T278.heap b229 k229 .long (2 : Int32) [(.long q4), (.long q5)] (.long (0 : Int64)) := (F276.keep Kc278 (ninS ne246 (ninS ne259 (ninS ne262 (ninS ne265 nin0)))))
          have go316 : Go p e below s₁ F0 T313 (mkF m 144 #[vi p1, vj q2, .second, vj q3, .second, vj q4, .second, vj q5, .second, vi p6, vi (2 : Int32), vi (0 : Int32), vr b217, vr b229, vi k, vr b243, vi (0 : Int32), vi (0 : Int32)] [(.int k), (.ref b229), (.int (f8_2_0_1 k q2 q3 w0_278 w1_278))]) := by
            intro t_ k_
            refine go314 t_ ?_
            refine o_aload X313 hx (hb hby at_140) rfl rfl ?_
            refine o_iload X313 hx (hb hby at_142) rfl ?_
            exact k_
          obtain ⟨_, _, ⟨T317, L317, k317, n317⟩, -, X317, ⟨Lc317, hQ317, l317, y317, z317⟩, st317⟩ := Jvm.LawKit.callS X313 hx (y := y_7) hown (mvT hZ (own_w hw 52 rfl)) (mvT hZ (own_w hw 53 rfl)) (mvT hZ (own_w hw 54 rfl)) (mvT hZ (own_w hw 55 rfl)) (by decide) (backOf (W := 1) (rm9_1 l Z a0 hw [] b229 k k229 q4 q5 (T278.heap) n0 Z279 F315 hb112_284) hZ (own_w hw 55 rfl) (own_w hw 54 rfl) (by decide) (by decide)) (g := (mkF m 144 #[vi p1, vj q2, .second, vj q3, .second, vj q4, .second, vj q5, .second, vi p6, vi (2 : Int32), vi (0 : Int32), vr b217, vr b229, vi k, vr b243, vi (0 : Int32), vi (0 : Int32)] [(.int k), (.ref b229), (.int (f8_2_0_1 k q2 q3 w0_278 w1_278))])) rfl (by rw [hml]; rfl) (argsL := [(.ref b229), (.int k)]) (rest := [(.int (f8_2_0_1 k q2 q3 w0_278 w1_278))]) (lenOf pd0_3 rfl) rfl (by show 2 * 0 + _ ≤ _; exact Nat.le_of_eq rfl) (hb hby at_144) (fun _ _ => ⟨rfl, eh313, (by decide : 6 + 0 ≤ _), (by decide : 89 + 0 ≤ _)⟩)
          dsimp only [Pt.U, Pt.locs, Pt.cells, Pt.slots] at X317 l317 y317 z317 st317 hQ317
          subst l317 y317 z317
          obtain ⟨rfl, Nq317, eh317⟩ := hQ317
          have N317 := Fr.app N313 Nq317
          have go318 : Go p e below s₁ F0 T317 (mkF m 147 #[vi p1, vj q2, .second, vj q3, .second, vj q4, .second, vj q5, .second, vi p6, vi (2 : Int32), vi (0 : Int32), vr b217, vr b229, vi k, vr b243, vi (0 : Int32), vi (0 : Int32)] [(.int (f9_1 k q4 q5)), (.int (f8_2_0_1 k q2 q3 w0_278 w1_278))]) := fun t_ k_ => go316 t_ (st317 t_ k_)
          have hd319 : (f8_2_0_1 k q2 q3 w0_278 w1_278) = (f9_1 k q4 q5) := (by rw [← (own_l hP_278 hcs281).2]; exact own_bit _ _)
          have go320 : Go p e below s₁ F0 T317 (mkF m 155 #[vi p1, vj q2, .second, vj q3, .second, vj q4, .second, vj q5, .second, vi p6, vi (2 : Int32), vi (0 : Int32), vr b217, vr b229, vi k, vr b243, vi (0 : Int32), vi (0 : Int32)] [(.int (1 : Int32))]) := by
            intro t_ k_
            refine go318 t_ ?_
            refine o_icmpNo X317 hx (hb hby at_147) (teq hd319).2 ?_
            refine o_iconst X317 hx (hb hby at_150) (v := 1) rfl ?_
            refine o_goto X317 hx (hb hby at_151) (pc' := 155) rfl (by decide) ?_
            exact k_
          obtain ⟨fs, hr, hrun, hended, hW, hsame⟩ := X317.leave (v := some (.int (1 : Int32))) (fun h => by rw [Bd.returns] at h; cases h)
          refine ⟨_, _, pre0 _ (go320 _ ?_), hrun, hended, _, _, rfl, ?_, ⟨_, rfl⟩, hW, hsame.mono (by decide) (by decide)⟩
          · skip
            exact retN X317 hx (t := .boolean) Bd.returns (by simp) (hb hby at_155) hr
          · show Q0 Z p1 q2 q3 q4 q5 p6 h0 n0 _ T317.heap _
            rw [eh317]
            exact ⟨rfl, N317⟩
      · skip
        have go321 : Go p e below s₁ F0 T278 (mkF m 110 #[vi p1, vj q2, .second, vj q3, .second, vj q4, .second, vj q5, .second, vi p6, vi (2 : Int32), vi (0 : Int32), vr b217, vr b229, vi k, vr b243, vi (0 : Int32), .unset] [(.int (1 : Int32))]) := by rw [hcs281] at go280; exact go280
        have go322 : Go p e below s₁ F0 T278 (mkF m 112 #[vi p1, vj q2, .second, vj q3, .second, vj q4, .second, vj q5, .second, vi p6, vi (2 : Int32), vi (0 : Int32), vr b217, vr b229, vi k, vr b243, vi (0 : Int32), vi (1 : Int32)] []) := by
          intro t_ k_
          refine go321 t_ ?_
          refine o_istore X278 hx (hb hby at_110) (L' := #[vi p1, vj q2, .second, vj q3, .second, vj q4, .second, vj q5, .second, vi p6, vi (2 : Int32), vi (0 : Int32), vr b217, vr b229, vi k, vr b243, vi (0 : Int32), vi (1 : Int32)]) rfl ?_
          exact k_
        by_cases hb112_323 : k < (64 : Int32)
        · skip
          have go324 : Go p e below s₁ F0 T278 (mkF m 118 #[vi p1, vj q2, .second, vj q3, .second, vj q4, .second, vj q5, .second, vi p6, vi (2 : Int32), vi (0 : Int32), vr b217, vr b229, vi k, vr b243, vi (0 : Int32), vi (1 : Int32)] [(.int k), (.int (0 : Int32)), (.ref b243)]) := by
            intro t_ k_
            refine go322 t_ ?_
            refine o_aload X278 hx (hb hby at_112) rfl rfl ?_
            refine o_iload X278 hx (hb hby at_114) rfl ?_
            refine o_iload X278 hx (hb hby at_116) rfl ?_
            exact k_
          have F326 : Exa Z T278.heap b243 c_0 := (F275.keep Kc278)
          obtain ⟨cq325, kq325, q325a, q325b, q325c⟩ := isOf hZ rfl F326
          obtain ⟨_, _, ⟨T325, L325, k325, n325⟩, -, X325, ⟨Lc325, hQ325, l325, y325, z325⟩, st325⟩ := X278.virtualBack hx (y := y_6) (z := y_6) hown (mvT hZ (own_w hw 47 rfl)) (mvT hZ (own_w hw 48 rfl)) (notFace_of_selects (args := #[]) (mvT hZ (own_w hw 50 rfl))) (mvT hZ (own_w hw 50 rfl)) (mvT hZ (own_w hw 49 rfl)) (by decide) (backOf (W := 0) (rm8_2_0_0 l Z a0 hw [] b243 k bw_255 kw_255 q2 q3 w0_278 w1_278 (T278.heap) n0 Z279 Fwi_278 Fwo_278 Vw_278 (own_d0 (own_k128 h_k).1 hb112_323)) hZ (own_w hw 51 rfl) (own_w hw 4 rfl) (by decide) (by decide)) q325a q325c (g := (mkF m 118 #[vi p1, vj q2, .second, vj q3, .second, vj q4, .second, vj q5, .second, vi p6, vi (2 : Int32), vi (0 : Int32), vr b217, vr b229, vi k, vr b243, vi (0 : Int32), vi (1 : Int32)] [(.int k), (.int (0 : Int32)), (.ref b243)])) rfl (by rw [hml]; rfl) (Steps.refl _) (argsL := [(.int (0 : Int32)), (.int k)]) (rest := []) (lenOf pd0_2 rfl) rfl (by show 2 * 0 + _ ≤ _; exact Nat.le_of_eq rfl) (hb hby at_118) (fun _ _ => ⟨rfl, rfl, (by decide : 6 + 0 ≤ _), (by decide : 89 + 0 ≤ _)⟩)
          dsimp only [Pt.U, Pt.locs, Pt.cells, Pt.slots] at X325 l325 y325 z325 st325 hQ325
          subst l325 y325 z325
          obtain ⟨rfl, Nq325, eh325⟩ := hQ325
          have N325 := Fr.app N278 Nq325
          have go327 : Go p e below s₁ F0 T325 (mkF m 121 #[vi p1, vj q2, .second, vj q3, .second, vj q4, .second, vj q5, .second, vi p6, vi (2 : Int32), vi (0 : Int32), vr b217, vr b229, vi k, vr b243, vi (0 : Int32), vi (1 : Int32)] [(.int (f8_2_0_0 k q2 q3 w0_278 w1_278))]) := fun t_ k_ => go324 t_ (st325.trans k_)
          have F328 : Arv Z T278.heap b217 k217 .long (2 : Int32) [(.long q2), (.long q3)] (.long (0 : Int64)) := ((F270.keep Kc272 (ninS ne245 (ninS ne257 (ninS ne261 (ninS ne264 nin0))))).keep Kc278 (ninS ne245 (ninS ne257 (ninS ne261 (ninS ne264 nin0)))))
          have go329 : Go p e below s₁ F0 T325 (mkF m 125 #[vi p1, vj q2, .second, vj q3, .second, vj q4, .second, vj q5, .second, vi p6, vi (2 : Int32), vi (0 : Int32), vr b217, vr b229, vi k, vr b243, vi (0 : Int32), vi (1 : Int32)] [(.int k), (.ref b217), (.int (f8_2_0_0 k q2 q3 w0_278 w1_278))]) := by
            intro t_ k_
            refine go327 t_ ?_
            refine o_aload X325 hx (hb hby at_121) rfl rfl ?_
            refine o_iload X325 hx (hb hby at_123) rfl ?_
            exact k_
          obtain ⟨_, _, ⟨T330, L330, k330, n330⟩, -, X330, ⟨Lc330, hQ330, l330, y330, z330⟩, st330⟩ := Jvm.LawKit.callS X325 hx (y := y_7) hown (mvT hZ (own_w hw 52 rfl)) (mvT hZ (own_w hw 53 rfl)) (mvT hZ (own_w hw 54 rfl)) (mvT hZ (own_w hw 55 rfl)) (by decide) (backOf (W := 1) (rm9_0 l Z a0 hw [] b217 k k217 q2 q3 (T278.heap) n0 Z279 F328 hb112_323) hZ (own_w hw 55 rfl) (own_w hw 54 rfl) (by decide) (by decide)) (g := (mkF m 125 #[vi p1, vj q2, .second, vj q3, .second, vj q4, .second, vj q5, .second, vi p6, vi (2 : Int32), vi (0 : Int32), vr b217, vr b229, vi k, vr b243, vi (0 : Int32), vi (1 : Int32)] [(.int k), (.ref b217), (.int (f8_2_0_0 k q2 q3 w0_278 w1_278))])) rfl (by rw [hml]; rfl) (argsL := [(.ref b217), (.int k)]) (rest := [(.int (f8_2_0_0 k q2 q3 w0_278 w1_278))]) (lenOf pd0_3 rfl) rfl (by show 2 * 0 + _ ≤ _; exact Nat.le_of_eq rfl) (hb hby at_125) (fun _ _ => ⟨rfl, eh325, (by decide : 6 + 0 ≤ _), (by decide : 89 + 0 ≤ _)⟩)
          dsimp only [Pt.U, Pt.locs, Pt.cells, Pt.slots] at X330 l330 y330 z330 st330 hQ330
          subst l330 y330 z330
          obtain ⟨rfl, Nq330, eh330⟩ := hQ330
          have N330 := Fr.app N325 Nq330
          have go331 : Go p e below s₁ F0 T330 (mkF m 128 #[vi p1, vj q2, .second, vj q3, .second, vj q4, .second, vj q5, .second, vi p6, vi (2 : Int32), vi (0 : Int32), vr b217, vr b229, vi k, vr b243, vi (0 : Int32), vi (1 : Int32)] [(.int (f9_0 k q2 q3)), (.int (f8_2_0_0 k q2 q3 w0_278 w1_278))]) := fun t_ k_ => go329 t_ (st330 t_ k_)
          have hd332 : (f8_2_0_0 k q2 q3 w0_278 w1_278) = (f9_0 k q2 q3) := own_bit _ _
          have go333 : Go p e below s₁ F0 T330 (mkF m 137 #[vi p1, vj q2, .second, vj q3, .second, vj q4, .second, vj q5, .second, vi p6, vi (2 : Int32), vi (0 : Int32), vr b217, vr b229, vi k, vr b243, vi (0 : Int32), vi (1 : Int32)] [(.int k), (.int (1 : Int32)), (.ref b243)]) := by
            intro t_ k_
            refine go331 t_ ?_
            refine o_icmpNo X330 hx (hb hby at_128) (teq hd332).2 ?_
            refine o_aload X330 hx (hb hby at_131) rfl rfl ?_
            refine o_iload X330 hx (hb hby at_133) rfl ?_
            refine o_iload X330 hx (hb hby at_135) rfl ?_
            exact k_
          obtain ⟨cq334, kq334, q334a, q334b, q334c⟩ := isOf hZ eh330 F326
          obtain ⟨_, _, ⟨T334, L334, k334, n334⟩, -, X334, ⟨Lc334, hQ334, l334, y334, z334⟩, st334⟩ := X330.virtualBack hx (y := y_6) (z := y_6) hown (mvT hZ (own_w hw 47 rfl)) (mvT hZ (own_w hw 48 rfl)) (notFace_of_selects (args := #[]) (mvT hZ (own_w hw 50 rfl))) (mvT hZ (own_w hw 50 rfl)) (mvT hZ (own_w hw 49 rfl)) (by decide) (backOf (W := 0) (rm8_2_1_0 l Z a0 hw [] b243 k bw_255 kw_255 q2 q3 w0_278 w1_278 (T278.heap) n0 Z279 Fwi_278 Fwo_278 Vw_278 (own_d0 (own_k128 h_k).1 hb112_323)) hZ (own_w hw 51 rfl) (own_w hw 4 rfl) (by decide) (by decide)) q334a q334c (g := (mkF m 137 #[vi p1, vj q2, .second, vj q3, .second, vj q4, .second, vj q5, .second, vi p6, vi (2 : Int32), vi (0 : Int32), vr b217, vr b229, vi k, vr b243, vi (0 : Int32), vi (1 : Int32)] [(.int k), (.int (1 : Int32)), (.ref b243)])) rfl (by rw [hml]; rfl) (Steps.refl _) (argsL := [(.int (1 : Int32)), (.int k)]) (rest := []) (lenOf pd0_2 rfl) rfl (by show 2 * 0 + _ ≤ _; exact Nat.le_of_eq rfl) (hb hby at_137) (fun _ _ => ⟨rfl, eh330, (by decide : 6 + 0 ≤ _), (by decide : 89 + 0 ≤ _)⟩)
          dsimp only [Pt.U, Pt.locs, Pt.cells, Pt.slots] at X334 l334 y334 z334 st334 hQ334
          subst l334 y334 z334
          obtain ⟨rfl, Nq334, eh334⟩ := hQ334
          have N334 := Fr.app N330 Nq334
          have go335 : Go p e below s₁ F0 T334 (mkF m 140 #[vi p1, vj q2, .second, vj q3, .second, vj q4, .second, vj q5, .second, vi p6, vi (2 : Int32), vi (0 : Int32), vr b217, vr b229, vi k, vr b243, vi (0 : Int32), vi (1 : Int32)] [(.int (f8_2_1_0 k q2 q3 w0_278 w1_278))]) := fun t_ k_ => go333 t_ (st334.trans k_)
          have F336 : Arv Z T278.heap b229 k229 .long (2 : Int32) [(.long q4), (.long q5)] (.long (0 : Int64)) := (F276.keep Kc278 (ninS ne246 (ninS ne259 (ninS ne262 (ninS ne265 nin0)))))
          have go337 : Go p e below s₁ F0 T334 (mkF m 144 #[vi p1, vj q2, .second, vj q3, .second, vj q4, .second, vj q5, .second, vi p6, vi (2 : Int32), vi (0 : Int32), vr b217, vr b229, vi k, vr b243, vi (0 : Int32), vi (1 : Int32)] [(.int k), (.ref b229), (.int (f8_2_1_0 k q2 q3 w0_278 w1_278))]) := by
            intro t_ k_
            refine go335 t_ ?_
            refine o_aload X334 hx (hb hby at_140) rfl rfl ?_
            refine o_iload X334 hx (hb hby at_142) rfl ?_
            exact k_
          obtain ⟨_, _, ⟨T338, L338, k338, n338⟩, -, X338, ⟨Lc338, hQ338, l338, y338, z338⟩, st338⟩ := Jvm.LawKit.callS X334 hx (y := y_7) hown (mvT hZ (own_w hw 52 rfl)) (mvT hZ (own_w hw 53 rfl)) (mvT hZ (own_w hw 54 rfl)) (mvT hZ (own_w hw 55 rfl)) (by decide) (backOf (W := 1) (rm9_0 l Z a0 hw [] b229 k k229 q4 q5 (T278.heap) n0 Z279 F336 hb112_323) hZ (own_w hw 55 rfl) (own_w hw 54 rfl) (by decide) (by decide)) (g := (mkF m 144 #[vi p1, vj q2, .second, vj q3, .second, vj q4, .second, vj q5, .second, vi p6, vi (2 : Int32), vi (0 : Int32), vr b217, vr b229, vi k, vr b243, vi (0 : Int32), vi (1 : Int32)] [(.int k), (.ref b229), (.int (f8_2_1_0 k q2 q3 w0_278 w1_278))])) rfl (by rw [hml]; rfl) (argsL := [(.ref b229), (.int k)]) (rest := [(.int (f8_2_1_0 k q2 q3 w0_278 w1_278))]) (lenOf pd0_3 rfl) rfl (by show 2 * 0 + _ ≤ _; exact Nat.le_of_eq rfl) (hb hby at_144) (fun _ _ => ⟨rfl, eh334, (by decide : 6 + 0 ≤ _), (by decide : 89 + 0 ≤ _)⟩)
          dsimp only [Pt.U, Pt.locs, Pt.cells, Pt.slots] at X338 l338 y338 z338 st338 hQ338
          subst l338 y338 z338
          obtain ⟨rfl, Nq338, eh338⟩ := hQ338
          have N338 := Fr.app N334 Nq338
          have go339 : Go p e below s₁ F0 T338 (mkF m 147 #[vi p1, vj q2, .second, vj q3, .second, vj q4, .second, vj q5, .second, vi p6, vi (2 : Int32), vi (0 : Int32), vr b217, vr b229, vi k, vr b243, vi (0 : Int32), vi (1 : Int32)] [(.int (f9_0 k q4 q5)), (.int (f8_2_1_0 k q2 q3 w0_278 w1_278))]) := fun t_ k_ => go337 t_ (st338 t_ k_)
          have hd340 : (f8_2_1_0 k q2 q3 w0_278 w1_278) = (f9_0 k q4 q5) := (by rw [(own_r hP_278 hcs281).2.1]; exact own_bit _ _)
          have go341 : Go p e below s₁ F0 T338 (mkF m 155 #[vi p1, vj q2, .second, vj q3, .second, vj q4, .second, vj q5, .second, vi p6, vi (2 : Int32), vi (0 : Int32), vr b217, vr b229, vi k, vr b243, vi (0 : Int32), vi (1 : Int32)] [(.int (1 : Int32))]) := by
            intro t_ k_
            refine go339 t_ ?_
            refine o_icmpNo X338 hx (hb hby at_147) (teq hd340).2 ?_
            refine o_iconst X338 hx (hb hby at_150) (v := 1) rfl ?_
            refine o_goto X338 hx (hb hby at_151) (pc' := 155) rfl (by decide) ?_
            exact k_
          obtain ⟨fs, hr, hrun, hended, hW, hsame⟩ := X338.leave (v := some (.int (1 : Int32))) (fun h => by rw [Bd.returns] at h; cases h)
          refine ⟨_, _, pre0 _ (go341 _ ?_), hrun, hended, _, _, rfl, ?_, ⟨_, rfl⟩, hW, hsame.mono (by decide) (by decide)⟩
          · skip
            exact retN X338 hx (t := .boolean) Bd.returns (by simp) (hb hby at_155) hr
          · show Q0 Z p1 q2 q3 q4 q5 p6 h0 n0 _ T338.heap _
            rw [eh338]
            exact ⟨rfl, N338⟩
        · skip
          have go342 : Go p e below s₁ F0 T278 (mkF m 118 #[vi p1, vj q2, .second, vj q3, .second, vj q4, .second, vj q5, .second, vi p6, vi (2 : Int32), vi (0 : Int32), vr b217, vr b229, vi k, vr b243, vi (0 : Int32), vi (1 : Int32)] [(.int k), (.int (0 : Int32)), (.ref b243)]) := by
            intro t_ k_
            refine go322 t_ ?_
            refine o_aload X278 hx (hb hby at_112) rfl rfl ?_
            refine o_iload X278 hx (hb hby at_114) rfl ?_
            refine o_iload X278 hx (hb hby at_116) rfl ?_
            exact k_
          have F344 : Exa Z T278.heap b243 c_0 := (F275.keep Kc278)
          obtain ⟨cq343, kq343, q343a, q343b, q343c⟩ := isOf hZ rfl F344
          obtain ⟨_, _, ⟨T343, L343, k343, n343⟩, -, X343, ⟨Lc343, hQ343, l343, y343, z343⟩, st343⟩ := X278.virtualBack hx (y := y_6) (z := y_6) hown (mvT hZ (own_w hw 47 rfl)) (mvT hZ (own_w hw 48 rfl)) (notFace_of_selects (args := #[]) (mvT hZ (own_w hw 50 rfl))) (mvT hZ (own_w hw 50 rfl)) (mvT hZ (own_w hw 49 rfl)) (by decide) (backOf (W := 0) (rm8_2_0_1 l Z a0 hw [] b243 k bw_255 kw_255 q2 q3 w0_278 w1_278 (T278.heap) n0 Z279 Fwi_278 Fwo_278 Vw_278 (own_d1 (own_k128 h_k).2 hb112_323)) hZ (own_w hw 51 rfl) (own_w hw 4 rfl) (by decide) (by decide)) q343a q343c (g := (mkF m 118 #[vi p1, vj q2, .second, vj q3, .second, vj q4, .second, vj q5, .second, vi p6, vi (2 : Int32), vi (0 : Int32), vr b217, vr b229, vi k, vr b243, vi (0 : Int32), vi (1 : Int32)] [(.int k), (.int (0 : Int32)), (.ref b243)])) rfl (by rw [hml]; rfl) (Steps.refl _) (argsL := [(.int (0 : Int32)), (.int k)]) (rest := []) (lenOf pd0_2 rfl) rfl (by show 2 * 0 + _ ≤ _; exact Nat.le_of_eq rfl) (hb hby at_118) (fun _ _ => ⟨rfl, rfl, (by decide : 6 + 0 ≤ _), (by decide : 89 + 0 ≤ _)⟩)
          dsimp only [Pt.U, Pt.locs, Pt.cells, Pt.slots] at X343 l343 y343 z343 st343 hQ343
          subst l343 y343 z343
          obtain ⟨rfl, Nq343, eh343⟩ := hQ343
          have N343 := Fr.app N278 Nq343
          have go345 : Go p e below s₁ F0 T343 (mkF m 121 #[vi p1, vj q2, .second, vj q3, .second, vj q4, .second, vj q5, .second, vi p6, vi (2 : Int32), vi (0 : Int32), vr b217, vr b229, vi k, vr b243, vi (0 : Int32), vi (1 : Int32)] [(.int (f8_2_0_1 k q2 q3 w0_278 w1_278))]) := fun t_ k_ => go342 t_ (st343.trans k_)
          have F346 : Arv Z T278.heap b217 k217 .long (2 : Int32) [(.long q2), (.long q3)] (.long (0 : Int64)) := ((F270.keep Kc272 (ninS ne245 (ninS ne257 (ninS ne261 (ninS ne264 nin0))))).keep Kc278 (ninS ne245 (ninS ne257 (ninS ne261 (ninS ne264 nin0)))))
          have go347 : Go p e below s₁ F0 T343 (mkF m 125 #[vi p1, vj q2, .second, vj q3, .second, vj q4, .second, vj q5, .second, vi p6, vi (2 : Int32), vi (0 : Int32), vr b217, vr b229, vi k, vr b243, vi (0 : Int32), vi (1 : Int32)] [(.int k), (.ref b217), (.int (f8_2_0_1 k q2 q3 w0_278 w1_278))]) := by
            intro t_ k_
            refine go345 t_ ?_
            refine o_aload X343 hx (hb hby at_121) rfl rfl ?_
            refine o_iload X343 hx (hb hby at_123) rfl ?_
            exact k_
          obtain ⟨_, _, ⟨T348, L348, k348, n348⟩, -, X348, ⟨Lc348, hQ348, l348, y348, z348⟩, st348⟩ := Jvm.LawKit.callS X343 hx (y := y_7) hown (mvT hZ (own_w hw 52 rfl)) (mvT hZ (own_w hw 53 rfl)) (mvT hZ (own_w hw 54 rfl)) (mvT hZ (own_w hw 55 rfl)) (by decide) (backOf (W := 1) (rm9_1 l Z a0 hw [] b217 k k217 q2 q3 (T278.heap) n0 Z279 F346 hb112_323) hZ (own_w hw 55 rfl) (own_w hw 54 rfl) (by decide) (by decide)) (g := (mkF m 125 #[vi p1, vj q2, .second, vj q3, .second, vj q4, .second, vj q5, .second, vi p6, vi (2 : Int32), vi (0 : Int32), vr b217, vr b229, vi k, vr b243, vi (0 : Int32), vi (1 : Int32)] [(.int k), (.ref b217), (.int (f8_2_0_1 k q2 q3 w0_278 w1_278))])) rfl (by rw [hml]; rfl) (argsL := [(.ref b217), (.int k)]) (rest := [(.int (f8_2_0_1 k q2 q3 w0_278 w1_278))]) (lenOf pd0_3 rfl) rfl (by show 2 * 0 + _ ≤ _; exact Nat.le_of_eq rfl) (hb hby at_125) (fun _ _ => ⟨rfl, eh343, (by decide : 6 + 0 ≤ _), (by decide : 89 + 0 ≤ _)⟩)
          dsimp only [Pt.U, Pt.locs, Pt.cells, Pt.slots] at X348 l348 y348 z348 st348 hQ348
          subst l348 y348 z348
          obtain ⟨rfl, Nq348, eh348⟩ := hQ348
          have N348 := Fr.app N343 Nq348
          have go349 : Go p e below s₁ F0 T348 (mkF m 128 #[vi p1, vj q2, .second, vj q3, .second, vj q4, .second, vj q5, .second, vi p6, vi (2 : Int32), vi (0 : Int32), vr b217, vr b229, vi k, vr b243, vi (0 : Int32), vi (1 : Int32)] [(.int (f9_1 k q2 q3)), (.int (f8_2_0_1 k q2 q3 w0_278 w1_278))]) := fun t_ k_ => go347 t_ (st348 t_ k_)
          have hd350 : (f8_2_0_1 k q2 q3 w0_278 w1_278) = (f9_1 k q2 q3) := own_bit _ _
          have go351 : Go p e below s₁ F0 T348 (mkF m 137 #[vi p1, vj q2, .second, vj q3, .second, vj q4, .second, vj q5, .second, vi p6, vi (2 : Int32), vi (0 : Int32), vr b217, vr b229, vi k, vr b243, vi (0 : Int32), vi (1 : Int32)] [(.int k), (.int (1 : Int32)), (.ref b243)]) := by
            intro t_ k_
            refine go349 t_ ?_
            refine o_icmpNo X348 hx (hb hby at_128) (teq hd350).2 ?_
            refine o_aload X348 hx (hb hby at_131) rfl rfl ?_
            refine o_iload X348 hx (hb hby at_133) rfl ?_
            refine o_iload X348 hx (hb hby at_135) rfl ?_
            exact k_
          obtain ⟨cq352, kq352, q352a, q352b, q352c⟩ := isOf hZ eh348 F344
          obtain ⟨_, _, ⟨T352, L352, k352, n352⟩, -, X352, ⟨Lc352, hQ352, l352, y352, z352⟩, st352⟩ := X348.virtualBack hx (y := y_6) (z := y_6) hown (mvT hZ (own_w hw 47 rfl)) (mvT hZ (own_w hw 48 rfl)) (notFace_of_selects (args := #[]) (mvT hZ (own_w hw 50 rfl))) (mvT hZ (own_w hw 50 rfl)) (mvT hZ (own_w hw 49 rfl)) (by decide) (backOf (W := 0) (rm8_2_1_1 l Z a0 hw [] b243 k bw_255 kw_255 q2 q3 w0_278 w1_278 (T278.heap) n0 Z279 Fwi_278 Fwo_278 Vw_278 (own_d1 (own_k128 h_k).2 hb112_323)) hZ (own_w hw 51 rfl) (own_w hw 4 rfl) (by decide) (by decide)) q352a q352c (g := (mkF m 137 #[vi p1, vj q2, .second, vj q3, .second, vj q4, .second, vj q5, .second, vi p6, vi (2 : Int32), vi (0 : Int32), vr b217, vr b229, vi k, vr b243, vi (0 : Int32), vi (1 : Int32)] [(.int k), (.int (1 : Int32)), (.ref b243)])) rfl (by rw [hml]; rfl) (Steps.refl _) (argsL := [(.int (1 : Int32)), (.int k)]) (rest := []) (lenOf pd0_2 rfl) rfl (by show 2 * 0 + _ ≤ _; exact Nat.le_of_eq rfl) (hb hby at_137) (fun _ _ => ⟨rfl, eh348, (by decide : 6 + 0 ≤ _), (by decide : 89 + 0 ≤ _)⟩)
          dsimp only [Pt.U, Pt.locs, Pt.cells, Pt.slots] at X352 l352 y352 z352 st352 hQ352
          subst l352 y352 z352
          obtain ⟨rfl, Nq352, eh352⟩ := hQ352
          have N352 := Fr.app N348 Nq352
          have go353 : Go p e below s₁ F0 T352 (mkF m 140 #[vi p1, vj q2, .second, vj q3, .second, vj q4, .second, vj q5, .second, vi p6, vi (2 : Int32), vi (0 : Int32), vr b217, vr b229, vi k, vr b243, vi (0 : Int32), vi (1 : Int32)] [(.int (f8_2_1_1 k q2 q3 w0_278 w1_278))]) := fun t_ k_ => go351 t_ (st352.trans k_)
          have F354 : Arv Z T278.heap b229 k229 .long (2 : Int32) [(.long q4), (.long q5)] (.long (0 : Int64)) := (F276.keep Kc278 (ninS ne246 (ninS ne259 (ninS ne262 (ninS ne265 nin0)))))
          have go355 : Go p e below s₁ F0 T352 (mkF m 144 #[vi p1, vj q2, .second, vj q3, .second, vj q4, .second, vj q5, .second, vi p6, vi (2 : Int32), vi (0 : Int32), vr b217, vr b229, vi k, vr b243, vi (0 : Int32), vi (1 : Int32)] [(.int k), (.ref b229), (.int (f8_2_1_1 k q2 q3 w0_278 w1_278))]) := by
            intro t_ k_
            refine go353 t_ ?_
            refine o_aload X352 hx (hb hby at_140) rfl rfl ?_
            refine o_iload X352 hx (hb hby at_142) rfl ?_
            exact k_
          obtain ⟨_, _, ⟨T356, L356, k356, n356⟩, -, X356, ⟨Lc356, hQ356, l356, y356, z356⟩, st356⟩ := Jvm.LawKit.callS X352 hx (y := y_7) hown (mvT hZ (own_w hw 52 rfl)) (mvT hZ (own_w hw 53 rfl)) (mvT hZ (own_w hw 54 rfl)) (mvT hZ (own_w hw 55 rfl)) (by decide) (backOf (W := 1) (rm9_1 l Z a0 hw [] b229 k k229 q4 q5 (T278.heap) n0 Z279 F354 hb112_323) hZ (own_w hw 55 rfl) (own_w hw 54 rfl) (by decide) (by decide)) (g := (mkF m 144 #[vi p1, vj q2, .second, vj q3, .second, vj q4, .second, vj q5, .second, vi p6, vi (2 : Int32), vi (0 : Int32), vr b217, vr b229, vi k, vr b243, vi (0 : Int32), vi (1 : Int32)] [(.int k), (.ref b229), (.int (f8_2_1_1 k q2 q3 w0_278 w1_278))])) rfl (by rw [hml]; rfl) (argsL := [(.ref b229), (.int k)]) (rest := [(.int (f8_2_1_1 k q2 q3 w0_278 w1_278))]) (lenOf pd0_3 rfl) rfl (by show 2 * 0 + _ ≤ _; exact Nat.le_of_eq rfl) (hb hby at_144) (fun _ _ => ⟨rfl, eh352, (by decide : 6 + 0 ≤ _), (by decide : 89 + 0 ≤ _)⟩)
          dsimp only [Pt.U, Pt.locs, Pt.cells, Pt.slots] at X356 l356 y356 z356 st356 hQ356
          subst l356 y356 z356
          obtain ⟨rfl, Nq356, eh356⟩ := hQ356
          have N356 := Fr.app N352 Nq356
          have go357 : Go p e below s₁ F0 T356 (mkF m 147 #[vi p1, vj q2, .second, vj q3, .second, vj q4, .second, vj q5, .second, vi p6, vi (2 : Int32), vi (0 : Int32), vr b217, vr b229, vi k, vr b243, vi (0 : Int32), vi (1 : Int32)] [(.int (f9_1 k q4 q5)), (.int (f8_2_1_1 k q2 q3 w0_278 w1_278))]) := fun t_ k_ => go355 t_ (st356 t_ k_)
          have hd358 : (f8_2_1_1 k q2 q3 w0_278 w1_278) = (f9_1 k q4 q5) := (by rw [(own_r hP_278 hcs281).2.2]; exact own_bit _ _)
          have go359 : Go p e below s₁ F0 T356 (mkF m 155 #[vi p1, vj q2, .second, vj q3, .second, vj q4, .second, vj q5, .second, vi p6, vi (2 : Int32), vi (0 : Int32), vr b217, vr b229, vi k, vr b243, vi (0 : Int32), vi (1 : Int32)] [(.int (1 : Int32))]) := by
            intro t_ k_
            refine go357 t_ ?_
            refine o_icmpNo X356 hx (hb hby at_147) (teq hd358).2 ?_
            refine o_iconst X356 hx (hb hby at_150) (v := 1) rfl ?_
            refine o_goto X356 hx (hb hby at_151) (pc' := 155) rfl (by decide) ?_
            exact k_
          obtain ⟨fs, hr, hrun, hended, hW, hsame⟩ := X356.leave (v := some (.int (1 : Int32))) (fun h => by rw [Bd.returns] at h; cases h)
          refine ⟨_, _, pre0 _ (go359 _ ?_), hrun, hended, _, _, rfl, ?_, ⟨_, rfl⟩, hW, hsame.mono (by decide) (by decide)⟩
          · skip
            exact retN X356 hx (t := .boolean) Bd.returns (by simp) (hb hby at_155) hr
          · show Q0 Z p1 q2 q3 q4 q5 p6 h0 n0 _ T356.heap _
            rw [eh356]
            exact ⟨rfl, N356⟩
    · skip
      have go360 : Go p e below s₁ F0 s₁ (mkF m 21 #[vi p1, vj q2, .second, vj q3, .second, vj q4, .second, vj q5, .second, vi p6, vi (2 : Int32), vi (1 : Int32), .unset, .unset, .unset, .unset, .unset, .unset] [(.int (2 : Int32))]) := by
        intro t_ k_
        refine go214 t_ ?_
        refine o_ifNo X0 hx (hb hby at_10) ((if0 _ _).trans (feq hc10_215).1) ?_
        refine o_iconst X0 hx (hb hby at_13) (v := 1) rfl ?_
        refine o_goto X0 hx (hb hby at_14) (pc' := 18) rfl (by decide) ?_
        refine o_istore X0 hx (hb hby at_18) (L' := #[vi p1, vj q2, .second, vj q3, .second, vj q4, .second, vj q5, .second, vi p6, vi (2 : Int32), vi (1 : Int32), .unset, .unset, .unset, .unset, .unset, .unset]) rfl ?_
        refine o_iconst X0 hx (hb hby at_20) (v := 2) rfl ?_
        exact k_
      obtain ⟨T361, h361, k361, X361, e361, E361, A361, st361⟩ := newP X0 hx hZ (own_w hw 0 rfl) e0 (g := (mkF m 21 #[vi p1, vj q2, .second, vj q3, .second, vj q4, .second, vj q5, .second, vi p6, vi (2 : Int32), vi (1 : Int32), .unset, .unset, .unset, .unset, .unset, .unset] [(.int (2 : Int32))])) rfl (hb hby at_21) rfl (by decide) (cap := 2) (by decide) (by decide) (by decide) (by decide)
      obtain ⟨b361, gz361⟩ : ∃ z, z = h0.size := ⟨_, rfl⟩
      rw [← gz361] at A361 st361
      have g_b361 : n0 ≤ b361 := Nat.le_trans Z0 (Nat.le_of_eq gz361.symm)
      have Z362 : n0 ≤ h361.size := Nat.le_trans Z0 E361.1
      have V361 : Arv Z h361 b361 k361 .long (2 : Int32) [(.long (0 : Int64)), (.long (0 : Int64))] (.long (0 : Int64)) := (Arv.new A361 (by decide)).pad (pad_rep [] (.long (0 : Int64)) 2)
      have go363 : Go p e below s₁ F0 T361 (mkF m 23 #[vi p1, vj q2, .second, vj q3, .second, vj q4, .second, vj q5, .second, vi p6, vi (2 : Int32), vi (1 : Int32), .unset, .unset, .unset, .unset, .unset, .unset] [(.ref b361)]) := fun t_ k_ => go360 t_ (st361 t_ k_)
      have go364 : Go p e below s₁ F0 T361 (mkF m 29 #[vi p1, vj q2, .second, vj q3, .second, vj q4, .second, vj q5, .second, vi p6, vi (2 : Int32), vi (1 : Int32), vr b361, .unset, .unset, .unset, .unset, .unset] [(.long q2), (.int (0 : Int32)), (.ref b361)]) := by
        intro t_ k_
        refine go363 t_ ?_
        refine o_astore X361 hx (hb hby at_23) rfl (L' := #[vi p1, vj q2, .second, vj q3, .second, vj q4, .second, vj q5, .second, vi p6, vi (2 : Int32), vi (1 : Int32), vr b361, .unset, .unset, .unset, .unset, .unset]) rfl ?_
        refine o_aload X361 hx (hb hby at_25) rfl rfl ?_
        refine o_iconst X361 hx (hb hby at_27) (v := 0) rfl ?_
        refine o_lloadN X361 hx (hb hby at_28) rfl ?_
        exact k_
      obtain ⟨cl365, Ar365, q365, Sz365, Nn365, Hs365, G365⟩ := id V361
      have hin365 : ¬ ((0 : Int32) < 0 ∨ cl365.slots.size ≤ ((0 : Int32)).toNatClampNeg) := inb_of Sz365 ⟨by decide, by decide⟩
      obtain ⟨T365, h365, X365, e365, W365, st365⟩ := stJ X361 hx hZ e361 Ar365 (j := (0 : Int32)) hin365 (g := (mkF m 29 #[vi p1, vj q2, .second, vj q3, .second, vj q4, .second, vj q5, .second, vi p6, vi (2 : Int32), vi (1 : Int32), vr b361, .unset, .unset, .unset, .unset, .unset] [(.long q2), (.int (0 : Int32)), (.ref b361)])) rfl rfl (hb hby at_29)
      have V365 : Arv Z h365 b361 k361 .long (2 : Int32) [(.long q2), (.long (0 : Int64))] (.long (0 : Int64)) := Arv.set Ar365 q365 Sz365 Nn365 Hs365 G365 rfl W365 0 rfl (Nat.le_of_ble_eq_true rfl)
      have Z366 : n0 ≤ h365.size := Nat.le_trans Z362 (Keep.of_wr W365).1
      have N365 := Fr.snoc X365 N0 g_b361
      have go367 : Go p e below s₁ F0 T365 (mkF m 30 #[vi p1, vj q2, .second, vj q3, .second, vj q4, .second, vj q5, .second, vi p6, vi (2 : Int32), vi (1 : Int32), vr b361, .unset, .unset, .unset, .unset, .unset] []) := fun t_ k_ => go364 t_ (st365 t_ k_)
      have go368 : Go p e below s₁ F0 T365 (mkF m 34 #[vi p1, vj q2, .second, vj q3, .second, vj q4, .second, vj q5, .second, vi p6, vi (2 : Int32), vi (1 : Int32), vr b361, .unset, .unset, .unset, .unset, .unset] [(.long q3), (.int (1 : Int32)), (.ref b361)]) := by
        intro t_ k_
        refine go367 t_ ?_
        refine o_aload X365 hx (hb hby at_30) rfl rfl ?_
        refine o_iconst X365 hx (hb hby at_32) (v := 1) rfl ?_
        refine o_lloadN X365 hx (hb hby at_33) rfl ?_
        exact k_
      obtain ⟨cl369, Ar369, q369, Sz369, Nn369, Hs369, G369⟩ := id V365
      have hin369 : ¬ ((1 : Int32) < 0 ∨ cl369.slots.size ≤ ((1 : Int32)).toNatClampNeg) := inb_of Sz369 ⟨by decide, by decide⟩
      obtain ⟨T369, h369, X369, e369, W369, st369⟩ := stJ X365 hx hZ e365 Ar369 (j := (1 : Int32)) hin369 (g := (mkF m 34 #[vi p1, vj q2, .second, vj q3, .second, vj q4, .second, vj q5, .second, vi p6, vi (2 : Int32), vi (1 : Int32), vr b361, .unset, .unset, .unset, .unset, .unset] [(.long q3), (.int (1 : Int32)), (.ref b361)])) rfl rfl (hb hby at_34)
      have V369 : Arv Z h369 b361 k361 .long (2 : Int32) [(.long q2), (.long q3)] (.long (0 : Int64)) := Arv.set Ar369 q369 Sz369 Nn369 Hs369 G369 rfl W369 1 rfl (Nat.le_of_ble_eq_true rfl)
      have Z370 : n0 ≤ h369.size := Nat.le_trans Z366 (Keep.of_wr W369).1
      have N369 := Fr.snoc X369 N365 g_b361
      have go371 : Go p e below s₁ F0 T369 (mkF m 35 #[vi p1, vj q2, .second, vj q3, .second, vj q4, .second, vj q5, .second, vi p6, vi (2 : Int32), vi (1 : Int32), vr b361, .unset, .unset, .unset, .unset, .unset] []) := fun t_ k_ => go368 t_ (st369 t_ k_)
      have go372 : Go p e below s₁ F0 T369 (mkF m 36 #[vi p1, vj q2, .second, vj q3, .second, vj q4, .second, vj q5, .second, vi p6, vi (2 : Int32), vi (1 : Int32), vr b361, .unset, .unset, .unset, .unset, .unset] [(.int (2 : Int32))]) := by
        intro t_ k_
        refine go371 t_ ?_
        refine o_iconst X369 hx (hb hby at_35) (v := 2) rfl ?_
        exact k_
      obtain ⟨T373, h373, k373, X373, e373, E373, A373, st373⟩ := newP X369 hx hZ (own_w hw 0 rfl) e369 (g := (mkF m 36 #[vi p1, vj q2, .second, vj q3, .second, vj q4, .second, vj q5, .second, vi p6, vi (2 : Int32), vi (1 : Int32), vr b361, .unset, .unset, .unset, .unset, .unset] [(.int (2 : Int32))])) rfl (hb hby at_36) rfl (by decide) (cap := 2) (by decide) (by decide) (by decide) (by decide)
      obtain ⟨b373, gz373⟩ : ∃ z, z = h369.size := ⟨_, rfl⟩
      rw [← gz373] at A373 st373
      have ne374 : b361 ≠ b373 := Nat.ne_of_lt (Nat.lt_of_lt_of_le V369.lt (Nat.le_of_eq gz373.symm))
      have g_b373 : n0 ≤ b373 := Nat.le_trans Z370 (Nat.le_of_eq gz373.symm)
      have Z375 : n0 ≤ h373.size := Nat.le_trans Z370 E373.1
      have V373 : Arv Z h373 b373 k373 .long (2 : Int32) [(.long (0 : Int64)), (.long (0 : Int64))] (.long (0 : Int64)) := (Arv.new A373 (by decide)).pad (pad_rep [] (.long (0 : Int64)) 2)
      have go376 : Go p e below s₁ F0 T373 (mkF m 38 #[vi p1, vj q2, .second, vj q3, .second, vj q4, .second, vj q5, .second, vi p6, vi (2 : Int32), vi (1 : Int32), vr b361, .unset, .unset, .unset, .unset, .unset] [(.ref b373)]) := fun t_ k_ => go372 t_ (st373 t_ k_)
      have go377 : Go p e below s₁ F0 T373 (mkF m 49 #[vi p1, vj q2, .second, vj q3, .second, vj q4, .second, vj q5, .second, vi p6, vi (2 : Int32), vi (1 : Int32), vr b361, vr b373, .unset, .unset, .unset, .unset] [(.long q2), (.int (0 : Int32)), (.ref b373)]) := by
        intro t_ k_
        refine go376 t_ ?_
        refine o_astore X373 hx (hb hby at_38) rfl (L' := #[vi p1, vj q2, .second, vj q3, .second, vj q4, .second, vj q5, .second, vi p6, vi (2 : Int32), vi (1 : Int32), vr b361, vr b373, .unset, .unset, .unset, .unset]) rfl ?_
        refine o_iload X373 hx (hb hby at_40) rfl ?_
        refine o_ifNo X373 hx (hb hby at_42) ((if0 _ _).trans (feq (by decide : ¬ ((1 : Int32) = (0 : Int32)))).1) ?_
        refine o_aload X373 hx (hb hby at_45) rfl rfl ?_
        refine o_iconst X373 hx (hb hby at_47) (v := 0) rfl ?_
        refine o_lloadN X373 hx (hb hby at_48) rfl ?_
        exact k_
      obtain ⟨cl378, Ar378, q378, Sz378, Nn378, Hs378, G378⟩ := id V373
      have hin378 : ¬ ((0 : Int32) < 0 ∨ cl378.slots.size ≤ ((0 : Int32)).toNatClampNeg) := inb_of Sz378 ⟨by decide, by decide⟩
      obtain ⟨T378, h378, X378, e378, W378, st378⟩ := stJ X373 hx hZ e373 Ar378 (j := (0 : Int32)) hin378 (g := (mkF m 49 #[vi p1, vj q2, .second, vj q3, .second, vj q4, .second, vj q5, .second, vi p6, vi (2 : Int32), vi (1 : Int32), vr b361, vr b373, .unset, .unset, .unset, .unset] [(.long q2), (.int (0 : Int32)), (.ref b373)])) rfl rfl (hb hby at_49)
      have V378 : Arv Z h378 b373 k373 .long (2 : Int32) [(.long q2), (.long (0 : Int64))] (.long (0 : Int64)) := Arv.set Ar378 q378 Sz378 Nn378 Hs378 G378 rfl W378 0 rfl (Nat.le_of_ble_eq_true rfl)
      have Z379 : n0 ≤ h378.size := Nat.le_trans Z375 (Keep.of_wr W378).1
      have N378 := Fr.snoc X378 N369 g_b373
      have go380 : Go p e below s₁ F0 T378 (mkF m 50 #[vi p1, vj q2, .second, vj q3, .second, vj q4, .second, vj q5, .second, vi p6, vi (2 : Int32), vi (1 : Int32), vr b361, vr b373, .unset, .unset, .unset, .unset] []) := fun t_ k_ => go377 t_ (st378 t_ k_)
      have go381 : Go p e below s₁ F0 T378 (mkF m 54 #[vi p1, vj q2, .second, vj q3, .second, vj q4, .second, vj q5, .second, vi p6, vi (2 : Int32), vi (1 : Int32), vr b361, vr b373, .unset, .unset, .unset, .unset] [(.long q3), (.int (1 : Int32)), (.ref b373)]) := by
        intro t_ k_
        refine go380 t_ ?_
        refine o_aload X378 hx (hb hby at_50) rfl rfl ?_
        refine o_iconst X378 hx (hb hby at_52) (v := 1) rfl ?_
        refine o_lloadN X378 hx (hb hby at_53) rfl ?_
        exact k_
      obtain ⟨cl382, Ar382, q382, Sz382, Nn382, Hs382, G382⟩ := id V378
      have hin382 : ¬ ((1 : Int32) < 0 ∨ cl382.slots.size ≤ ((1 : Int32)).toNatClampNeg) := inb_of Sz382 ⟨by decide, by decide⟩
      obtain ⟨T382, h382, X382, e382, W382, st382⟩ := stJ X378 hx hZ e378 Ar382 (j := (1 : Int32)) hin382 (g := (mkF m 54 #[vi p1, vj q2, .second, vj q3, .second, vj q4, .second, vj q5, .second, vi p6, vi (2 : Int32), vi (1 : Int32), vr b361, vr b373, .unset, .unset, .unset, .unset] [(.long q3), (.int (1 : Int32)), (.ref b373)])) rfl rfl (hb hby at_54)
      have V382 : Arv Z h382 b373 k373 .long (2 : Int32) [(.long q2), (.long q3)] (.long (0 : Int64)) := Arv.set Ar382 q382 Sz382 Nn382 Hs382 G382 rfl W382 1 rfl (Nat.le_of_ble_eq_true rfl)
      have Z383 : n0 ≤ h382.size := Nat.le_trans Z379 (Keep.of_wr W382).1
      have N382 := Fr.snoc X382 N378 g_b373
      have go384 : Go p e below s₁ F0 T382 (mkF m 55 #[vi p1, vj q2, .second, vj q3, .second, vj q4, .second, vj q5, .second, vi p6, vi (2 : Int32), vi (1 : Int32), vr b361, vr b373, .unset, .unset, .unset, .unset] []) := fun t_ k_ => go381 t_ (st382 t_ k_)
      have go385 : Go p e below s₁ F0 T382 (mkF m 83 #[vi p1, vj q2, .second, vj q3, .second, vj q4, .second, vj q5, .second, vi p6, vi (2 : Int32), vi (1 : Int32), vr b361, vr b373, vi ((p6 &&& (2147483647 : Int32)) % (128 : Int32)), .unset, .unset, .unset] []) := by
        intro t_ k_
        refine go384 t_ ?_
        refine o_goto X382 hx (hb hby at_55) (pc' := 70) rfl (by decide) ?_
        refine o_iload X382 hx (hb hby at_70) rfl ?_
        refine o_ldc X382 hx hown (mvT hZ (own_w hw 1 rfl)) (hb hby at_72) ?_
        refine o_iand X382 hx (hb hby at_74) ?_
        refine o_bipush X382 hx (hb hby at_75) (v := 64) rfl ?_
        refine o_iload X382 hx (hb hby at_77) rfl ?_
        refine o_imulE X382 hx (hb hby at_79) (v := 128) rfl ?_
        refine o_irem X382 hx (hb hby at_80) (by decide) ?_
        refine o_istore X382 hx (hb hby at_81) (L' := #[vi p1, vj q2, .second, vj q3, .second, vj q4, .second, vj q5, .second, vi p6, vi (2 : Int32), vi (1 : Int32), vr b361, vr b373, vi ((p6 &&& (2147483647 : Int32)) % (128 : Int32)), .unset, .unset, .unset]) rfl ?_
        exact k_
      obtain ⟨k, h_k⟩ : ∃ z : Int32, z = ((p6 &&& (2147483647 : Int32)) % (128 : Int32)) := ⟨_, rfl⟩
      have go386 : Go p e below s₁ F0 T382 (mkF m 83 #[vi p1, vj q2, .second, vj q3, .second, vj q4, .second, vj q5, .second, vi p6, vi (2 : Int32), vi (1 : Int32), vr b361, vr b373, vi k, .unset, .unset, .unset] []) := by rw [h_k]; exact go385
      obtain ⟨T387, h387, X387, e387, E387, A387, D387, -, st387⟩ := newO X382 hx hZ hown (own_w hw 2 rfl) (own_w hw 3 rfl) (own_w hw 4 rfl) e382 (g := (mkF m 83 #[vi p1, vj q2, .second, vj q3, .second, vj q4, .second, vj q5, .second, vi p6, vi (2 : Int32), vi (1 : Int32), vr b361, vr b373, vi k, .unset, .unset, .unset] [])) rfl (hb hby at_83) (by decide) (by decide)
      obtain ⟨b387, gz387⟩ : ∃ z, z = h382.size := ⟨_, rfl⟩
      rw [← gz387] at A387 D387 st387
      have F388 : Arv Z h382 b361 k361 .long (2 : Int32) [(.long q2), (.long q3)] (.long (0 : Int64)) := (((V369.ext E373).other W378 ne374).other W382 ne374)
      have ne389 : b361 ≠ b387 := Nat.ne_of_lt (Nat.lt_of_lt_of_le F388.lt (Nat.le_of_eq gz387.symm))
      have ne390 : b373 ≠ b387 := Nat.ne_of_lt (Nat.lt_of_lt_of_le V382.lt (Nat.le_of_eq gz387.symm))
      have g_b387 : n0 ≤ b387 := Nat.le_trans Z383 (Nat.le_of_eq gz387.symm)
      have Z391 : n0 ≤ h387.size := Nat.le_trans Z383 E387.1
      have F392 : Fld Z h387 b387 c_0 "width" "I" (.int (0 : Int32)) := D387 (Or.inr (own_w hw 12 rfl)) (ty := .int) (by decide)
      have F393 : Fld Z h387 b387 c_0 "words" "[J" .null := D387 (Or.inl (own_w hw 14 rfl)) (ty := (.array .long)) (by decide)
      have F394 : Fld Z h387 b387 c_0 "hashes" "[I" .null := D387 (Or.inl (own_w hw 17 rfl)) (ty := (.array .int)) (by decide)
      have F395 : Fld Z h387 b387 c_0 "slots" "[I" .null := D387 (Or.inl (own_w hw 19 rfl)) (ty := (.array .int)) (by decide)
      have F396 : Fld Z h387 b387 c_0 "count" "I" (.int (0 : Int32)) := D387 (Or.inl (own_w hw 38 rfl)) (ty := .int) (by decide)
      have go397 : Go p e below s₁ F0 T387 (mkF m 86 #[vi p1, vj q2, .second, vj q3, .second, vj q4, .second, vj q5, .second, vi p6, vi (2 : Int32), vi (1 : Int32), vr b361, vr b373, vi k, .unset, .unset, .unset] [(.ref b387)]) := fun t_ k_ => go386 t_ (st387 t_ k_)
      have go398 : Go p e below s₁ F0 T387 (mkF m 89 #[vi p1, vj q2, .second, vj q3, .second, vj q4, .second, vj q5, .second, vi p6, vi (2 : Int32), vi (1 : Int32), vr b361, vr b373, vi k, .unset, .unset, .unset] [(.int (2 : Int32)), (.ref b387), (.ref b387)]) := by
        intro t_ k_
        refine go397 t_ ?_
        refine o_dup X387 hx (hb hby at_86) rfl ?_
        refine o_iload X387 hx (hb hby at_87) rfl ?_
        exact k_
      obtain ⟨_, _, ⟨T399, L399, k399, n399⟩, -, X399, ⟨Lc399, hQ399, l399, y399, z399⟩, st399⟩ := X387.specialBack hx (y := y_2) rfl hown (mvT hZ (own_w hw 5 rfl)) (mvT hZ (own_w hw 6 rfl)) (mvT hZ (own_w hw 7 rfl)) (by decide) (backOf (W := 1) (rm1_w2 l Z a0 hw [] b387 h387 n0 Z391 A387 F392 F393 F394 F395 F396 g_b387) hZ (own_w hw 7 rfl) (own_w hw 4 rfl) (by decide) (by decide)) (g := (mkF m 89 #[vi p1, vj q2, .second, vj q3, .second, vj q4, .second, vj q5, .second, vi p6, vi (2 : Int32), vi (1 : Int32), vr b361, vr b373, vi k, .unset, .unset, .unset] [(.int (2 : Int32)), (.ref b387), (.ref b387)])) rfl (by rw [hml]; rfl) (Steps.refl _) (a := b387) (argsL := [(.int (2 : Int32))]) (rest := [(.ref b387)]) (lenOf pd0_0 rfl) rfl (by show 2 * 0 + _ ≤ _; exact Nat.le_of_eq rfl) (hb hby at_89) (fun _ _ => ⟨rfl, e387, (by decide : 3 + 3 ≤ _), (by decide : 9 + 80 ≤ _)⟩)
      dsimp only [Pt.U, Pt.locs, Pt.cells, Pt.slots] at X399 l399 y399 z399 st399 hQ399
      subst l399 y399 z399
      obtain ⟨bw_399, bh_399, bs_399, kw_399, kh_399, ks_399, rfl, Nq399, Kc399, hbw_399, hbh_399, hbs_399, nwh_399, nws_399, nhs_399, Fwi_399, Fwo_399, Fha_399, Fsl_399, Fco_399, Vw_399, Vh_399, Vs_399⟩ := hQ399
      have N399 := Fr.app N382 Nq399
      have F400 : Arv Z h387 b361 k361 .long (2 : Int32) [(.long q2), (.long q3)] (.long (0 : Int64)) := (F388.ext E387)
      have ne401 : b361 ≠ bw_399 := Nat.ne_of_lt (Nat.lt_of_lt_of_le F400.lt hbw_399)
      have F402 : Arv Z h387 b373 k373 .long (2 : Int32) [(.long q2), (.long q3)] (.long (0 : Int64)) := (V382.ext E387)
      have ne403 : b373 ≠ bw_399 := Nat.ne_of_lt (Nat.lt_of_lt_of_le F402.lt hbw_399)
      have ne404 : b387 ≠ bw_399 := Nat.ne_of_lt (Nat.lt_of_lt_of_le A387.lt hbw_399)
      have g_bw_399 : n0 ≤ bw_399 := Nat.le_trans Z391 hbw_399
      have ne405 : b361 ≠ bh_399 := Nat.ne_of_lt (Nat.lt_of_lt_of_le F400.lt hbh_399)
      have ne406 : b373 ≠ bh_399 := Nat.ne_of_lt (Nat.lt_of_lt_of_le F402.lt hbh_399)
      have ne407 : b387 ≠ bh_399 := Nat.ne_of_lt (Nat.lt_of_lt_of_le A387.lt hbh_399)
      have g_bh_399 : n0 ≤ bh_399 := Nat.le_trans Z391 hbh_399
      have ne408 : b361 ≠ bs_399 := Nat.ne_of_lt (Nat.lt_of_lt_of_le F400.lt hbs_399)
      have ne409 : b373 ≠ bs_399 := Nat.ne_of_lt (Nat.lt_of_lt_of_le F402.lt hbs_399)
      have ne410 : b387 ≠ bs_399 := Nat.ne_of_lt (Nat.lt_of_lt_of_le A387.lt hbs_399)
      have g_bs_399 : n0 ≤ bs_399 := Nat.le_trans Z391 hbs_399
      have Z411 : n0 ≤ T399.heap.size := Nat.le_trans Z391 Kc399.1
      have go412 : Go p e below s₁ F0 T399 (mkF m 92 #[vi p1, vj q2, .second, vj q3, .second, vj q4, .second, vj q5, .second, vi p6, vi (2 : Int32), vi (1 : Int32), vr b361, vr b373, vi k, .unset, .unset, .unset] [(.ref b387)]) := fun t_ k_ => go398 t_ (st399.trans k_)
      have F413 : Exa Z T399.heap b387 c_0 := (A387.keep Kc399)
      have F414 : Arv Z T399.heap b361 k361 .long (2 : Int32) [(.long q2), (.long q3)] (.long (0 : Int64)) := (F400.keep Kc399 (ninS ne389 nin0))
      have go415 : Go p e below s₁ F0 T399 (mkF m 98 #[vi p1, vj q2, .second, vj q3, .second, vj q4, .second, vj q5, .second, vi p6, vi (2 : Int32), vi (1 : Int32), vr b361, vr b373, vi k, vr b387, .unset, .unset] [(.ref b361), (.ref b387)]) := by
        intro t_ k_
        refine go412 t_ ?_
        refine o_astore X399 hx (hb hby at_92) rfl (L' := #[vi p1, vj q2, .second, vj q3, .second, vj q4, .second, vj q5, .second, vi p6, vi (2 : Int32), vi (1 : Int32), vr b361, vr b373, vi k, vr b387, .unset, .unset]) rfl ?_
        refine o_aload X399 hx (hb hby at_94) rfl rfl ?_
        refine o_aload X399 hx (hb hby at_96) rfl rfl ?_
        exact k_
      obtain ⟨cq416, kq416, q416a, q416b, q416c⟩ := isOf hZ rfl F413
      obtain ⟨_, _, ⟨T416, L416, k416, n416⟩, -, X416, ⟨Lc416, hQ416, l416, y416, z416⟩, st416⟩ := X399.virtualBack hx (y := y_4) (z := y_4) hown (mvT hZ (own_w hw 20 rfl)) (mvT hZ (own_w hw 21 rfl)) (notFace_of_selects (args := #[]) (mvT hZ (own_w hw 23 rfl))) (mvT hZ (own_w hw 23 rfl)) (mvT hZ (own_w hw 22 rfl)) (by decide) (backOf (W := 0) (rm3_a2 l Z a0 hw [] b387 b361 bw_399 bh_399 bs_399 kw_399 kh_399 ks_399 k361 q2 q3 (T399.heap) n0 Z411 F413 Fwi_399 Fwo_399 Fha_399 Fsl_399 Fco_399 Vw_399 Vh_399 Vs_399 F414 g_b387 g_bw_399 g_bh_399 g_bs_399 ne404 ne407 ne410 ne401 ne405 ne408 (Ne.symm ne389) nwh_399 nws_399 nhs_399) hZ (own_w hw 24 rfl) (own_w hw 4 rfl) (by decide) (by decide)) q416a q416c (g := (mkF m 98 #[vi p1, vj q2, .second, vj q3, .second, vj q4, .second, vj q5, .second, vi p6, vi (2 : Int32), vi (1 : Int32), vr b361, vr b373, vi k, vr b387, .unset, .unset] [(.ref b361), (.ref b387)])) rfl (by rw [hml]; rfl) (Steps.refl _) (argsL := [(.ref b361)]) (rest := []) (lenOf pd0_1 rfl) rfl (by show 2 * 0 + _ ≤ _; exact Nat.le_of_eq rfl) (hb hby at_98) (fun _ _ => ⟨rfl, rfl, (by decide : 6 + 0 ≤ _), (by decide : 89 + 0 ≤ _)⟩)
      dsimp only [Pt.U, Pt.locs, Pt.cells, Pt.slots] at X416 l416 y416 z416 st416 hQ416
      subst l416 y416 z416
      obtain ⟨hs_416, sl_416, rfl, Nq416, Kc416, Fwi_416, Fwo_416, Fha_416, Fsl_416, Fco_416, Vw_416, Vh_416, Vs_416, hhs_416, hsl_416⟩ := hQ416
      have N416 := Fr.app N399 Nq416
      have Z417 : n0 ≤ T416.heap.size := Nat.le_trans Z411 Kc416.1
      have go418 : Go p e below s₁ F0 T416 (mkF m 101 #[vi p1, vj q2, .second, vj q3, .second, vj q4, .second, vj q5, .second, vi p6, vi (2 : Int32), vi (1 : Int32), vr b361, vr b373, vi k, vr b387, .unset, .unset] [(.int (0 : Int32))]) := fun t_ k_ => go415 t_ (st416.trans k_)
      have F419 : Exa Z T416.heap b387 c_0 := (F413.keep Kc416)
      have F420 : Arv Z T416.heap b373 k373 .long (2 : Int32) [(.long q2), (.long q3)] (.long (0 : Int64)) := ((F402.keep Kc399 (ninS ne390 nin0)).keep Kc416 (ninS ne390 (ninS ne403 (ninS ne406 (ninS ne409 nin0)))))
      have go421 : Go p e below s₁ F0 T416 (mkF m 107 #[vi p1, vj q2, .second, vj q3, .second, vj q4, .second, vj q5, .second, vi p6, vi (2 : Int32), vi (1 : Int32), vr b361, vr b373, vi k, vr b387, vi (0 : Int32), .unset] [(.ref b373), (.ref b387)]) := by
        intro t_ k_
        refine go418 t_ ?_
        refine o_istore X416 hx (hb hby at_101) (L' := #[vi p1, vj q2, .second, vj q3, .second, vj q4, .second, vj q5, .second, vi p6, vi (2 : Int32), vi (1 : Int32), vr b361, vr b373, vi k, vr b387, vi (0 : Int32), .unset]) rfl ?_
        refine o_aload X416 hx (hb hby at_103) rfl rfl ?_
        refine o_aload X416 hx (hb hby at_105) rfl rfl ?_
        exact k_
      obtain ⟨cq422, kq422, q422a, q422b, q422c⟩ := isOf hZ rfl F419
      obtain ⟨_, _, ⟨T422, L422, k422, n422⟩, -, X422, ⟨Lc422, hQ422, l422, y422, z422⟩, st422⟩ := X416.virtualBack hx (y := y_4) (z := y_4) hown (mvT hZ (own_w hw 20 rfl)) (mvT hZ (own_w hw 21 rfl)) (notFace_of_selects (args := #[]) (mvT hZ (own_w hw 23 rfl))) (mvT hZ (own_w hw 23 rfl)) (mvT hZ (own_w hw 22 rfl)) (by decide) (backOf (W := 0) (rm3_b2 l Z a0 hw [] b387 b373 bw_399 bh_399 bs_399 kw_399 kh_399 ks_399 k373 hs_416 sl_416 q2 q3 q2 q3 (T416.heap) n0 Z417 F419 Fwi_416 Fwo_416 Fha_416 Fsl_416 Fco_416 Vw_416 Vh_416 Vs_416 F420 g_b387 g_bw_399 g_bh_399 g_bs_399 ne404 ne407 ne410 ne403 ne406 ne409 (Ne.symm ne390) nwh_399 nws_399 nhs_399 hhs_416 hsl_416) hZ (own_w hw 24 rfl) (own_w hw 4 rfl) (by decide) (by decide)) q422a q422c (g := (mkF m 107 #[vi p1, vj q2, .second, vj q3, .second, vj q4, .second, vj q5, .second, vi p6, vi (2 : Int32), vi (1 : Int32), vr b361, vr b373, vi k, vr b387, vi (0 : Int32), .unset] [(.ref b373), (.ref b387)])) rfl (by rw [hml]; rfl) (Steps.refl _) (argsL := [(.ref b373)]) (rest := []) (lenOf pd0_1 rfl) rfl (by show 2 * 0 + _ ≤ _; exact Nat.le_of_eq rfl) (hb hby at_107) (fun _ _ => ⟨rfl, rfl, (by decide : 6 + 0 ≤ _), (by decide : 89 + 0 ≤ _)⟩)
      dsimp only [Pt.U, Pt.locs, Pt.cells, Pt.slots] at X422 l422 y422 z422 st422 hQ422
      subst l422 y422 z422
      obtain ⟨n_422, w0_422, w1_422, rfl, Nq422, Kc422, Fwi_422, Fwo_422, Vw_422, hP_422⟩ := hQ422
      have N422 := Fr.app N416 Nq422
      have Z423 : n0 ≤ T422.heap.size := Nat.le_trans Z417 Kc422.1
      have go424 : Go p e below s₁ F0 T422 (mkF m 110 #[vi p1, vj q2, .second, vj q3, .second, vj q4, .second, vj q5, .second, vi p6, vi (2 : Int32), vi (1 : Int32), vr b361, vr b373, vi k, vr b387, vi (0 : Int32), .unset] [(.int n_422)]) := fun t_ k_ => go421 t_ (st422.trans k_)
      have hcs425 : n_422 = (0 : Int32) ∨ n_422 = (1 : Int32) := own_or hP_422
      rcases hcs425 with hcs425 | hcs425
      · skip
        have go426 : Go p e below s₁ F0 T422 (mkF m 110 #[vi p1, vj q2, .second, vj q3, .second, vj q4, .second, vj q5, .second, vi p6, vi (2 : Int32), vi (1 : Int32), vr b361, vr b373, vi k, vr b387, vi (0 : Int32), .unset] [(.int (0 : Int32))]) := by rw [hcs425] at go424; exact go424
        have go427 : Go p e below s₁ F0 T422 (mkF m 112 #[vi p1, vj q2, .second, vj q3, .second, vj q4, .second, vj q5, .second, vi p6, vi (2 : Int32), vi (1 : Int32), vr b361, vr b373, vi k, vr b387, vi (0 : Int32), vi (0 : Int32)] []) := by
          intro t_ k_
          refine go426 t_ ?_
          refine o_istore X422 hx (hb hby at_110) (L' := #[vi p1, vj q2, .second, vj q3, .second, vj q4, .second, vj q5, .second, vi p6, vi (2 : Int32), vi (1 : Int32), vr b361, vr b373, vi k, vr b387, vi (0 : Int32), vi (0 : Int32)]) rfl ?_
          exact k_
        by_cases hb112_428 : k < (64 : Int32)
        · skip
          have go429 : Go p e below s₁ F0 T422 (mkF m 118 #[vi p1, vj q2, .second, vj q3, .second, vj q4, .second, vj q5, .second, vi p6, vi (2 : Int32), vi (1 : Int32), vr b361, vr b373, vi k, vr b387, vi (0 : Int32), vi (0 : Int32)] [(.int k), (.int (0 : Int32)), (.ref b387)]) := by
            intro t_ k_
            refine go427 t_ ?_
            refine o_aload X422 hx (hb hby at_112) rfl rfl ?_
            refine o_iload X422 hx (hb hby at_114) rfl ?_
            refine o_iload X422 hx (hb hby at_116) rfl ?_
            exact k_
          have F431 : Exa Z T422.heap b387 c_0 := (F419.keep Kc422)
          obtain ⟨cq430, kq430, q430a, q430b, q430c⟩ := isOf hZ rfl F431
          obtain ⟨_, _, ⟨T430, L430, k430, n430⟩, -, X430, ⟨Lc430, hQ430, l430, y430, z430⟩, st430⟩ := X422.virtualBack hx (y := y_6) (z := y_6) hown (mvT hZ (own_w hw 47 rfl)) (mvT hZ (own_w hw 48 rfl)) (notFace_of_selects (args := #[]) (mvT hZ (own_w hw 50 rfl))) (mvT hZ (own_w hw 50 rfl)) (mvT hZ (own_w hw 49 rfl)) (by decide) (backOf (W := 0) (rm8_2_0_0 l Z a0 hw [] b387 k bw_399 kw_399 q2 q3 w0_422 w1_422 (T422.heap) n0 Z423 Fwi_422 Fwo_422 Vw_422 (own_d0 (own_k128 h_k).1 hb112_428)) hZ (own_w hw 51 rfl) (own_w hw 4 rfl) (by decide) (by decide)) q430a q430c (g := (mkF m 118 #[vi p1, vj q2, .second, vj q3, .second, vj q4, .second, vj q5, .second, vi p6, vi (2 : Int32), vi (1 : Int32), vr b361, vr b373, vi k, vr b387, vi (0 : Int32), vi (0 : Int32)] [(.int k), (.int (0 : Int32)), (.ref b387)])) rfl (by rw [hml]; rfl) (Steps.refl _) (argsL := [(.int (0 : Int32)), (.int k)]) (rest := []) (lenOf pd0_2 rfl) rfl (by show 2 * 0 + _ ≤ _; exact Nat.le_of_eq rfl) (hb hby at_118) (fun _ _ => ⟨rfl, rfl, (by decide : 6 + 0 ≤ _), (by decide : 89 + 0 ≤ _)⟩)
          dsimp only [Pt.U, Pt.locs, Pt.cells, Pt.slots] at X430 l430 y430 z430 st430 hQ430
          subst l430 y430 z430
          obtain ⟨rfl, Nq430, eh430⟩ := hQ430
          have N430 := Fr.app N422 Nq430
          have go432 : Go p e below s₁ F0 T430 (mkF m 121 #[vi p1, vj q2, .second, vj q3, .second, vj q4, .second, vj q5, .second, vi p6, vi (2 : Int32), vi (1 : Int32), vr b361, vr b373, vi k, vr b387, vi (0 : Int32), vi (0 : Int32)] [(.int (f8_2_0_0 k q2 q3 w0_422 w1_422))]) := fun t_ k_ => go429 t_ (st430.trans k_)
          have F433 : Arv Z T422.heap b361 k361 .long (2 : Int32) [(.long q2), (.long q3)] (.long (0 : Int64)) := ((F414.keep Kc416 (ninS ne389 (ninS ne401 (ninS ne405 (ninS ne408 nin0))))).keep Kc422 (ninS ne389 (ninS ne401 (ninS ne405 (ninS ne408 nin0)))))
          have go434 : Go p e below s₁ F0 T430 (mkF m 125 #[vi p1, vj q2, .second, vj q3, .second, vj q4, .second, vj q5, .second, vi p6, vi (2 : Int32), vi (1 : Int32), vr b361, vr b373, vi k, vr b387, vi (0 : Int32), vi (0 : Int32)] [(.int k), (.ref b361), (.int (f8_2_0_0 k q2 q3 w0_422 w1_422))]) := by
            intro t_ k_
            refine go432 t_ ?_
            refine o_aload X430 hx (hb hby at_121) rfl rfl ?_
            refine o_iload X430 hx (hb hby at_123) rfl ?_
            exact k_
          obtain ⟨_, _, ⟨T435, L435, k435, n435⟩, -, X435, ⟨Lc435, hQ435, l435, y435, z435⟩, st435⟩ := Jvm.LawKit.callS X430 hx (y := y_7) hown (mvT hZ (own_w hw 52 rfl)) (mvT hZ (own_w hw 53 rfl)) (mvT hZ (own_w hw 54 rfl)) (mvT hZ (own_w hw 55 rfl)) (by decide) (backOf (W := 1) (rm9_0 l Z a0 hw [] b361 k k361 q2 q3 (T422.heap) n0 Z423 F433 hb112_428) hZ (own_w hw 55 rfl) (own_w hw 54 rfl) (by decide) (by decide)) (g := (mkF m 125 #[vi p1, vj q2, .second, vj q3, .second, vj q4, .second, vj q5, .second, vi p6, vi (2 : Int32), vi (1 : Int32), vr b361, vr b373, vi k, vr b387, vi (0 : Int32), vi (0 : Int32)] [(.int k), (.ref b361), (.int (f8_2_0_0 k q2 q3 w0_422 w1_422))])) rfl (by rw [hml]; rfl) (argsL := [(.ref b361), (.int k)]) (rest := [(.int (f8_2_0_0 k q2 q3 w0_422 w1_422))]) (lenOf pd0_3 rfl) rfl (by show 2 * 0 + _ ≤ _; exact Nat.le_of_eq rfl) (hb hby at_125) (fun _ _ => ⟨rfl, eh430, (by decide : 6 + 0 ≤ _), (by decide : 89 + 0 ≤ _)⟩)
          dsimp only [Pt.U, Pt.locs, Pt.cells, Pt.slots] at X435 l435 y435 z435 st435 hQ435
          subst l435 y435 z435
          obtain ⟨rfl, Nq435, eh435⟩ := hQ435
          have N435 := Fr.app N430 Nq435
          have go436 : Go p e below s₁ F0 T435 (mkF m 128 #[vi p1, vj q2, .second, vj q3, .second, vj q4, .second, vj q5, .second, vi p6, vi (2 : Int32), vi (1 : Int32), vr b361, vr b373, vi k, vr b387, vi (0 : Int32), vi (0 : Int32)] [(.int (f9_0 k q2 q3)), (.int (f8_2_0_0 k q2 q3 w0_422 w1_422))]) := fun t_ k_ => go434 t_ (st435 t_ k_)
          have hd437 : (f8_2_0_0 k q2 q3 w0_422 w1_422) = (f9_0 k q2 q3) := own_bit _ _
          have go438 : Go p e below s₁ F0 T435 (mkF m 137 #[vi p1, vj q2, .second, vj q3, .second, vj q4, .second, vj q5, .second, vi p6, vi (2 : Int32), vi (1 : Int32), vr b361, vr b373, vi k, vr b387, vi (0 : Int32), vi (0 : Int32)] [(.int k), (.int (0 : Int32)), (.ref b387)]) := by
            intro t_ k_
            refine go436 t_ ?_
            refine o_icmpNo X435 hx (hb hby at_128) (teq hd437).2 ?_
            refine o_aload X435 hx (hb hby at_131) rfl rfl ?_
            refine o_iload X435 hx (hb hby at_133) rfl ?_
            refine o_iload X435 hx (hb hby at_135) rfl ?_
            exact k_
          obtain ⟨cq439, kq439, q439a, q439b, q439c⟩ := isOf hZ eh435 F431
          obtain ⟨_, _, ⟨T439, L439, k439, n439⟩, -, X439, ⟨Lc439, hQ439, l439, y439, z439⟩, st439⟩ := X435.virtualBack hx (y := y_6) (z := y_6) hown (mvT hZ (own_w hw 47 rfl)) (mvT hZ (own_w hw 48 rfl)) (notFace_of_selects (args := #[]) (mvT hZ (own_w hw 50 rfl))) (mvT hZ (own_w hw 50 rfl)) (mvT hZ (own_w hw 49 rfl)) (by decide) (backOf (W := 0) (rm8_2_0_0 l Z a0 hw [] b387 k bw_399 kw_399 q2 q3 w0_422 w1_422 (T422.heap) n0 Z423 Fwi_422 Fwo_422 Vw_422 (own_d0 (own_k128 h_k).1 hb112_428)) hZ (own_w hw 51 rfl) (own_w hw 4 rfl) (by decide) (by decide)) q439a q439c (g := (mkF m 137 #[vi p1, vj q2, .second, vj q3, .second, vj q4, .second, vj q5, .second, vi p6, vi (2 : Int32), vi (1 : Int32), vr b361, vr b373, vi k, vr b387, vi (0 : Int32), vi (0 : Int32)] [(.int k), (.int (0 : Int32)), (.ref b387)])) rfl (by rw [hml]; rfl) (Steps.refl _) (argsL := [(.int (0 : Int32)), (.int k)]) (rest := []) (lenOf pd0_2 rfl) rfl (by show 2 * 0 + _ ≤ _; exact Nat.le_of_eq rfl) (hb hby at_137) (fun _ _ => ⟨rfl, eh435, (by decide : 6 + 0 ≤ _), (by decide : 89 + 0 ≤ _)⟩)
          dsimp only [Pt.U, Pt.locs, Pt.cells, Pt.slots] at X439 l439 y439 z439 st439 hQ439
          subst l439 y439 z439
          obtain ⟨rfl, Nq439, eh439⟩ := hQ439
          have N439 := Fr.app N435 Nq439
          have go440 : Go p e below s₁ F0 T439 (mkF m 140 #[vi p1, vj q2, .second, vj q3, .second, vj q4, .second, vj q5, .second, vi p6, vi (2 : Int32), vi (1 : Int32), vr b361, vr b373, vi k, vr b387, vi (0 : Int32), vi (0 : Int32)] [(.int (f8_2_0_0 k q2 q3 w0_422 w1_422))]) := fun t_ k_ => go438 t_ (st439.trans k_)
          have F441 : Arv Z T422.heap b373 k373 .long (2 : Int32) [(.long q2), (.long q3)] (.long (0 : Int64)) := (F420.keep Kc422 (ninS ne390 (ninS ne403 (ninS ne406 (ninS ne409 nin0)))))
          have go442 : Go p e below s₁ F0 T439 (mkF m 144 #[vi p1, vj q2, .second, vj q3, .second, vj q4, .second, vj q5, .second, vi p6, vi (2 : Int32), vi (1 : Int32), vr b361, vr b373, vi k, vr b387, vi (0 : Int32), vi (0 : Int32)] [(.int k), (.ref b373), (.int (f8_2_0_0 k q2 q3 w0_422 w1_422))]) := by
            intro t_ k_
            refine go440 t_ ?_
            refine o_aload X439 hx (hb hby at_140) rfl rfl ?_
            refine o_iload X439 hx (hb hby at_142) rfl ?_
            exact k_
          obtain ⟨_, _, ⟨T443, L443, k443, n443⟩, -, X443, ⟨Lc443, hQ443, l443, y443, z443⟩, st443⟩ := Jvm.LawKit.callS X439 hx (y := y_7) hown (mvT hZ (own_w hw 52 rfl)) (mvT hZ (own_w hw 53 rfl)) (mvT hZ (own_w hw 54 rfl)) (mvT hZ (own_w hw 55 rfl)) (by decide) (backOf (W := 1) (rm9_0 l Z a0 hw [] b373 k k373 q2 q3 (T422.heap) n0 Z423 F441 hb112_428) hZ (own_w hw 55 rfl) (own_w hw 54 rfl) (by decide) (by decide)) (g := (mkF m 144 #[vi p1, vj q2, .second, vj q3, .second, vj q4, .second, vj q5, .second, vi p6, vi (2 : Int32), vi (1 : Int32), vr b361, vr b373, vi k, vr b387, vi (0 : Int32), vi (0 : Int32)] [(.int k), (.ref b373), (.int (f8_2_0_0 k q2 q3 w0_422 w1_422))])) rfl (by rw [hml]; rfl) (argsL := [(.ref b373), (.int k)]) (rest := [(.int (f8_2_0_0 k q2 q3 w0_422 w1_422))]) (lenOf pd0_3 rfl) rfl (by show 2 * 0 + _ ≤ _; exact Nat.le_of_eq rfl) (hb hby at_144) (fun _ _ => ⟨rfl, eh439, (by decide : 6 + 0 ≤ _), (by decide : 89 + 0 ≤ _)⟩)
          dsimp only [Pt.U, Pt.locs, Pt.cells, Pt.slots] at X443 l443 y443 z443 st443 hQ443
          subst l443 y443 z443
          obtain ⟨rfl, Nq443, eh443⟩ := hQ443
          have N443 := Fr.app N439 Nq443
          have go444 : Go p e below s₁ F0 T443 (mkF m 147 #[vi p1, vj q2, .second, vj q3, .second, vj q4, .second, vj q5, .second, vi p6, vi (2 : Int32), vi (1 : Int32), vr b361, vr b373, vi k, vr b387, vi (0 : Int32), vi (0 : Int32)] [(.int (f9_0 k q2 q3)), (.int (f8_2_0_0 k q2 q3 w0_422 w1_422))]) := fun t_ k_ => go442 t_ (st443 t_ k_)
          have go445 : Go p e below s₁ F0 T443 (mkF m 155 #[vi p1, vj q2, .second, vj q3, .second, vj q4, .second, vj q5, .second, vi p6, vi (2 : Int32), vi (1 : Int32), vr b361, vr b373, vi k, vr b387, vi (0 : Int32), vi (0 : Int32)] [(.int (1 : Int32))]) := by
            intro t_ k_
            refine go444 t_ ?_
            refine o_icmpNo X443 hx (hb hby at_147) (teq hd437).2 ?_
            refine o_iconst X443 hx (hb hby at_150) (v := 1) rfl ?_
            refine o_goto X443 hx (hb hby at_151) (pc' := 155) rfl (by decide) ?_
            exact k_
          obtain ⟨fs, hr, hrun, hended, hW, hsame⟩ := X443.leave (v := some (.int (1 : Int32))) (fun h => by rw [Bd.returns] at h; cases h)
          refine ⟨_, _, pre0 _ (go445 _ ?_), hrun, hended, _, _, rfl, ?_, ⟨_, rfl⟩, hW, hsame.mono (by decide) (by decide)⟩
          · skip
            exact retN X443 hx (t := .boolean) Bd.returns (by simp) (hb hby at_155) hr
          · show Q0 Z p1 q2 q3 q4 q5 p6 h0 n0 _ T443.heap _
            rw [eh443]
            exact ⟨rfl, N443⟩
        · skip
          have go446 : Go p e below s₁ F0 T422 (mkF m 118 #[vi p1, vj q2, .second, vj q3, .second, vj q4, .second, vj q5, .second, vi p6, vi (2 : Int32), vi (1 : Int32), vr b361, vr b373, vi k, vr b387, vi (0 : Int32), vi (0 : Int32)] [(.int k), (.int (0 : Int32)), (.ref b387)]) := by
            intro t_ k_
            refine go427 t_ ?_
            refine o_aload X422 hx (hb hby at_112) rfl rfl ?_
            refine o_iload X422 hx (hb hby at_114) rfl ?_
            refine o_iload X422 hx (hb hby at_116) rfl ?_
            exact k_
          have F448 : Exa Z T422.heap b387 c_0 := (F419.keep Kc422)
          obtain ⟨cq447, kq447, q447a, q447b, q447c⟩ := isOf hZ rfl F448
          obtain ⟨_, _, ⟨T447, L447, k447, n447⟩, -, X447, ⟨Lc447, hQ447, l447, y447, z447⟩, st447⟩ := X422.virtualBack hx (y := y_6) (z := y_6) hown (mvT hZ (own_w hw 47 rfl)) (mvT hZ (own_w hw 48 rfl)) (notFace_of_selects (args := #[]) (mvT hZ (own_w hw 50 rfl))) (mvT hZ (own_w hw 50 rfl)) (mvT hZ (own_w hw 49 rfl)) (by decide) (backOf (W := 0) (rm8_2_0_1 l Z a0 hw [] b387 k bw_399 kw_399 q2 q3 w0_422 w1_422 (T422.heap) n0 Z423 Fwi_422 Fwo_422 Vw_422 (own_d1 (own_k128 h_k).2 hb112_428)) hZ (own_w hw 51 rfl) (own_w hw 4 rfl) (by decide) (by decide)) q447a q447c (g := (mkF m 118 #[vi p1, vj q2, .second, vj q3, .second, vj q4, .second, vj q5, .second, vi p6, vi (2 : Int32), vi (1 : Int32), vr b361, vr b373, vi k, vr b387, vi (0 : Int32), vi (0 : Int32)] [(.int k), (.int (0 : Int32)), (.ref b387)])) rfl (by rw [hml]; rfl) (Steps.refl _) (argsL := [(.int (0 : Int32)), (.int k)]) (rest := []) (lenOf pd0_2 rfl) rfl (by show 2 * 0 + _ ≤ _; exact Nat.le_of_eq rfl) (hb hby at_118) (fun _ _ => ⟨rfl, rfl, (by decide : 6 + 0 ≤ _), (by decide : 89 + 0 ≤ _)⟩)
          dsimp only [Pt.U, Pt.locs, Pt.cells, Pt.slots] at X447 l447 y447 z447 st447 hQ447
          subst l447 y447 z447
          obtain ⟨rfl, Nq447, eh447⟩ := hQ447
          have N447 := Fr.app N422 Nq447
          have go449 : Go p e below s₁ F0 T447 (mkF m 121 #[vi p1, vj q2, .second, vj q3, .second, vj q4, .second, vj q5, .second, vi p6, vi (2 : Int32), vi (1 : Int32), vr b361, vr b373, vi k, vr b387, vi (0 : Int32), vi (0 : Int32)] [(.int (f8_2_0_1 k q2 q3 w0_422 w1_422))]) := fun t_ k_ => go446 t_ (st447.trans k_)
          have F450 : Arv Z T422.heap b361 k361 .long (2 : Int32) [(.long q2), (.long q3)] (.long (0 : Int64)) := ((F414.keep Kc416 (ninS ne389 (ninS ne401 (ninS ne405 (ninS ne408 nin0))))).keep Kc422 (ninS ne389 (ninS ne401 (ninS ne405 (ninS ne408 nin0)))))
          have go451 : Go p e below s₁ F0 T447 (mkF m 125 #[vi p1, vj q2, .second, vj q3, .second, vj q4, .second, vj q5, .second, vi p6, vi (2 : Int32), vi (1 : Int32), vr b361, vr b373, vi k, vr b387, vi (0 : Int32), vi (0 : Int32)] [(.int k), (.ref b361), (.int (f8_2_0_1 k q2 q3 w0_422 w1_422))]) := by
            intro t_ k_
            refine go449 t_ ?_
            refine o_aload X447 hx (hb hby at_121) rfl rfl ?_
            refine o_iload X447 hx (hb hby at_123) rfl ?_
            exact k_
          obtain ⟨_, _, ⟨T452, L452, k452, n452⟩, -, X452, ⟨Lc452, hQ452, l452, y452, z452⟩, st452⟩ := Jvm.LawKit.callS X447 hx (y := y_7) hown (mvT hZ (own_w hw 52 rfl)) (mvT hZ (own_w hw 53 rfl)) (mvT hZ (own_w hw 54 rfl)) (mvT hZ (own_w hw 55 rfl)) (by decide) (backOf (W := 1) (rm9_1 l Z a0 hw [] b361 k k361 q2 q3 (T422.heap) n0 Z423 F450 hb112_428) hZ (own_w hw 55 rfl) (own_w hw 54 rfl) (by decide) (by decide)) (g := (mkF m 125 #[vi p1, vj q2, .second, vj q3, .second, vj q4, .second, vj q5, .second, vi p6, vi (2 : Int32), vi (1 : Int32), vr b361, vr b373, vi k, vr b387, vi (0 : Int32), vi (0 : Int32)] [(.int k), (.ref b361), (.int (f8_2_0_1 k q2 q3 w0_422 w1_422))])) rfl (by rw [hml]; rfl) (argsL := [(.ref b361), (.int k)]) (rest := [(.int (f8_2_0_1 k q2 q3 w0_422 w1_422))]) (lenOf pd0_3 rfl) rfl (by show 2 * 0 + _ ≤ _; exact Nat.le_of_eq rfl) (hb hby at_125) (fun _ _ => ⟨rfl, eh447, (by decide : 6 + 0 ≤ _), (by decide : 89 + 0 ≤ _)⟩)
          dsimp only [Pt.U, Pt.locs, Pt.cells, Pt.slots] at X452 l452 y452 z452 st452 hQ452
          subst l452 y452 z452
          obtain ⟨rfl, Nq452, eh452⟩ := hQ452
          have N452 := Fr.app N447 Nq452
          have go453 : Go p e below s₁ F0 T452 (mkF m 128 #[vi p1, vj q2, .second, vj q3, .second, vj q4, .second, vj q5, .second, vi p6, vi (2 : Int32), vi (1 : Int32), vr b361, vr b373, vi k, vr b387, vi (0 : Int32), vi (0 : Int32)] [(.int (f9_1 k q2 q3)), (.int (f8_2_0_1 k q2 q3 w0_422 w1_422))]) := fun t_ k_ => go451 t_ (st452 t_ k_)
          have hd454 : (f8_2_0_1 k q2 q3 w0_422 w1_422) = (f9_1 k q2 q3) := own_bit _ _
          have go455 : Go p e below s₁ F0 T452 (mkF m 137 #[vi p1, vj q2, .second, vj q3, .second, vj q4, .second, vj q5, .second, vi p6, vi (2 : Int32), vi (1 : Int32), vr b361, vr b373, vi k, vr b387, vi (0 : Int32), vi (0 : Int32)] [(.int k), (.int (0 : Int32)), (.ref b387)]) := by
            intro t_ k_
            refine go453 t_ ?_
            refine o_icmpNo X452 hx (hb hby at_128) (teq hd454).2 ?_
            refine o_aload X452 hx (hb hby at_131) rfl rfl ?_
            refine o_iload X452 hx (hb hby at_133) rfl ?_
            refine o_iload X452 hx (hb hby at_135) rfl ?_
            exact k_
          obtain ⟨cq456, kq456, q456a, q456b, q456c⟩ := isOf hZ eh452 F448
          obtain ⟨_, _, ⟨T456, L456, k456, n456⟩, -, X456, ⟨Lc456, hQ456, l456, y456, z456⟩, st456⟩ := X452.virtualBack hx (y := y_6) (z := y_6) hown (mvT hZ (own_w hw 47 rfl)) (mvT hZ (own_w hw 48 rfl)) (notFace_of_selects (args := #[]) (mvT hZ (own_w hw 50 rfl))) (mvT hZ (own_w hw 50 rfl)) (mvT hZ (own_w hw 49 rfl)) (by decide) (backOf (W := 0) (rm8_2_0_1 l Z a0 hw [] b387 k bw_399 kw_399 q2 q3 w0_422 w1_422 (T422.heap) n0 Z423 Fwi_422 Fwo_422 Vw_422 (own_d1 (own_k128 h_k).2 hb112_428)) hZ (own_w hw 51 rfl) (own_w hw 4 rfl) (by decide) (by decide)) q456a q456c (g := (mkF m 137 #[vi p1, vj q2, .second, vj q3, .second, vj q4, .second, vj q5, .second, vi p6, vi (2 : Int32), vi (1 : Int32), vr b361, vr b373, vi k, vr b387, vi (0 : Int32), vi (0 : Int32)] [(.int k), (.int (0 : Int32)), (.ref b387)])) rfl (by rw [hml]; rfl) (Steps.refl _) (argsL := [(.int (0 : Int32)), (.int k)]) (rest := []) (lenOf pd0_2 rfl) rfl (by show 2 * 0 + _ ≤ _; exact Nat.le_of_eq rfl) (hb hby at_137) (fun _ _ => ⟨rfl, eh452, (by decide : 6 + 0 ≤ _), (by decide : 89 + 0 ≤ _)⟩)
          dsimp only [Pt.U, Pt.locs, Pt.cells, Pt.slots] at X456 l456 y456 z456 st456 hQ456
          subst l456 y456 z456
          obtain ⟨rfl, Nq456, eh456⟩ := hQ456
          have N456 := Fr.app N452 Nq456
          have go457 : Go p e below s₁ F0 T456 (mkF m 140 #[vi p1, vj q2, .second, vj q3, .second, vj q4, .second, vj q5, .second, vi p6, vi (2 : Int32), vi (1 : Int32), vr b361, vr b373, vi k, vr b387, vi (0 : Int32), vi (0 : Int32)] [(.int (f8_2_0_1 k q2 q3 w0_422 w1_422))]) := fun t_ k_ => go455 t_ (st456.trans k_)
          have F458 : Arv Z T422.heap b373 k373 .long (2 : Int32) [(.long q2), (.long q3)] (.long (0 : Int64)) := (F420.keep Kc422 (ninS ne390 (ninS ne403 (ninS ne406 (ninS ne409 nin0)))))
          have go459 : Go p e below s₁ F0 T456 (mkF m 144 #[vi p1, vj q2, .second, vj q3, .second, vj q4, .second, vj q5, .second, vi p6, vi (2 : Int32), vi (1 : Int32), vr b361, vr b373, vi k, vr b387, vi (0 : Int32), vi (0 : Int32)] [(.int k), (.ref b373), (.int (f8_2_0_1 k q2 q3 w0_422 w1_422))]) := by
            intro t_ k_
            refine go457 t_ ?_
            refine o_aload X456 hx (hb hby at_140) rfl rfl ?_
            refine o_iload X456 hx (hb hby at_142) rfl ?_
            exact k_
          obtain ⟨_, _, ⟨T460, L460, k460, n460⟩, -, X460, ⟨Lc460, hQ460, l460, y460, z460⟩, st460⟩ := Jvm.LawKit.callS X456 hx (y := y_7) hown (mvT hZ (own_w hw 52 rfl)) (mvT hZ (own_w hw 53 rfl)) (mvT hZ (own_w hw 54 rfl)) (mvT hZ (own_w hw 55 rfl)) (by decide) (backOf (W := 1) (rm9_1 l Z a0 hw [] b373 k k373 q2 q3 (T422.heap) n0 Z423 F458 hb112_428) hZ (own_w hw 55 rfl) (own_w hw 54 rfl) (by decide) (by decide)) (g := (mkF m 144 #[vi p1, vj q2, .second, vj q3, .second, vj q4, .second, vj q5, .second, vi p6, vi (2 : Int32), vi (1 : Int32), vr b361, vr b373, vi k, vr b387, vi (0 : Int32), vi (0 : Int32)] [(.int k), (.ref b373), (.int (f8_2_0_1 k q2 q3 w0_422 w1_422))])) rfl (by rw [hml]; rfl) (argsL := [(.ref b373), (.int k)]) (rest := [(.int (f8_2_0_1 k q2 q3 w0_422 w1_422))]) (lenOf pd0_3 rfl) rfl (by show 2 * 0 + _ ≤ _; exact Nat.le_of_eq rfl) (hb hby at_144) (fun _ _ => ⟨rfl, eh456, (by decide : 6 + 0 ≤ _), (by decide : 89 + 0 ≤ _)⟩)
          dsimp only [Pt.U, Pt.locs, Pt.cells, Pt.slots] at X460 l460 y460 z460 st460 hQ460
          subst l460 y460 z460
          obtain ⟨rfl, Nq460, eh460⟩ := hQ460
          have N460 := Fr.app N456 Nq460
          have go461 : Go p e below s₁ F0 T460 (mkF m 147 #[vi p1, vj q2, .second, vj q3, .second, vj q4, .second, vj q5, .second, vi p6, vi (2 : Int32), vi (1 : Int32), vr b361, vr b373, vi k, vr b387, vi (0 : Int32), vi (0 : Int32)] [(.int (f9_1 k q2 q3)), (.int (f8_2_0_1 k q2 q3 w0_422 w1_422))]) := fun t_ k_ => go459 t_ (st460 t_ k_)
          have go462 : Go p e below s₁ F0 T460 (mkF m 155 #[vi p1, vj q2, .second, vj q3, .second, vj q4, .second, vj q5, .second, vi p6, vi (2 : Int32), vi (1 : Int32), vr b361, vr b373, vi k, vr b387, vi (0 : Int32), vi (0 : Int32)] [(.int (1 : Int32))]) := by
            intro t_ k_
            refine go461 t_ ?_
            refine o_icmpNo X460 hx (hb hby at_147) (teq hd454).2 ?_
            refine o_iconst X460 hx (hb hby at_150) (v := 1) rfl ?_
            refine o_goto X460 hx (hb hby at_151) (pc' := 155) rfl (by decide) ?_
            exact k_
          obtain ⟨fs, hr, hrun, hended, hW, hsame⟩ := X460.leave (v := some (.int (1 : Int32))) (fun h => by rw [Bd.returns] at h; cases h)
          refine ⟨_, _, pre0 _ (go462 _ ?_), hrun, hended, _, _, rfl, ?_, ⟨_, rfl⟩, hW, hsame.mono (by decide) (by decide)⟩
          · skip
            exact retN X460 hx (t := .boolean) Bd.returns (by simp) (hb hby at_155) hr
          · show Q0 Z p1 q2 q3 q4 q5 p6 h0 n0 _ T460.heap _
            rw [eh460]
            exact ⟨rfl, N460⟩
      · skip
        have go463 : Go p e below s₁ F0 T422 (mkF m 110 #[vi p1, vj q2, .second, vj q3, .second, vj q4, .second, vj q5, .second, vi p6, vi (2 : Int32), vi (1 : Int32), vr b361, vr b373, vi k, vr b387, vi (0 : Int32), .unset] [(.int (1 : Int32))]) := by rw [hcs425] at go424; exact go424
        have go464 : Go p e below s₁ F0 T422 (mkF m 112 #[vi p1, vj q2, .second, vj q3, .second, vj q4, .second, vj q5, .second, vi p6, vi (2 : Int32), vi (1 : Int32), vr b361, vr b373, vi k, vr b387, vi (0 : Int32), vi (1 : Int32)] []) := by
          intro t_ k_
          refine go463 t_ ?_
          refine o_istore X422 hx (hb hby at_110) (L' := #[vi p1, vj q2, .second, vj q3, .second, vj q4, .second, vj q5, .second, vi p6, vi (2 : Int32), vi (1 : Int32), vr b361, vr b373, vi k, vr b387, vi (0 : Int32), vi (1 : Int32)]) rfl ?_
          exact k_
        by_cases hb112_465 : k < (64 : Int32)
        · skip
          have go466 : Go p e below s₁ F0 T422 (mkF m 118 #[vi p1, vj q2, .second, vj q3, .second, vj q4, .second, vj q5, .second, vi p6, vi (2 : Int32), vi (1 : Int32), vr b361, vr b373, vi k, vr b387, vi (0 : Int32), vi (1 : Int32)] [(.int k), (.int (0 : Int32)), (.ref b387)]) := by
            intro t_ k_
            refine go464 t_ ?_
            refine o_aload X422 hx (hb hby at_112) rfl rfl ?_
            refine o_iload X422 hx (hb hby at_114) rfl ?_
            refine o_iload X422 hx (hb hby at_116) rfl ?_
            exact k_
          have F468 : Exa Z T422.heap b387 c_0 := (F419.keep Kc422)
          obtain ⟨cq467, kq467, q467a, q467b, q467c⟩ := isOf hZ rfl F468
          obtain ⟨_, _, ⟨T467, L467, k467, n467⟩, -, X467, ⟨Lc467, hQ467, l467, y467, z467⟩, st467⟩ := X422.virtualBack hx (y := y_6) (z := y_6) hown (mvT hZ (own_w hw 47 rfl)) (mvT hZ (own_w hw 48 rfl)) (notFace_of_selects (args := #[]) (mvT hZ (own_w hw 50 rfl))) (mvT hZ (own_w hw 50 rfl)) (mvT hZ (own_w hw 49 rfl)) (by decide) (backOf (W := 0) (rm8_2_0_0 l Z a0 hw [] b387 k bw_399 kw_399 q2 q3 w0_422 w1_422 (T422.heap) n0 Z423 Fwi_422 Fwo_422 Vw_422 (own_d0 (own_k128 h_k).1 hb112_465)) hZ (own_w hw 51 rfl) (own_w hw 4 rfl) (by decide) (by decide)) q467a q467c (g := (mkF m 118 #[vi p1, vj q2, .second, vj q3, .second, vj q4, .second, vj q5, .second, vi p6, vi (2 : Int32), vi (1 : Int32), vr b361, vr b373, vi k, vr b387, vi (0 : Int32), vi (1 : Int32)] [(.int k), (.int (0 : Int32)), (.ref b387)])) rfl (by rw [hml]; rfl) (Steps.refl _) (argsL := [(.int (0 : Int32)), (.int k)]) (rest := []) (lenOf pd0_2 rfl) rfl (by show 2 * 0 + _ ≤ _; exact Nat.le_of_eq rfl) (hb hby at_118) (fun _ _ => ⟨rfl, rfl, (by decide : 6 + 0 ≤ _), (by decide : 89 + 0 ≤ _)⟩)
          dsimp only [Pt.U, Pt.locs, Pt.cells, Pt.slots] at X467 l467 y467 z467 st467 hQ467
          subst l467 y467 z467
          obtain ⟨rfl, Nq467, eh467⟩ := hQ467
          have N467 := Fr.app N422 Nq467
          have go469 : Go p e below s₁ F0 T467 (mkF m 121 #[vi p1, vj q2, .second, vj q3, .second, vj q4, .second, vj q5, .second, vi p6, vi (2 : Int32), vi (1 : Int32), vr b361, vr b373, vi k, vr b387, vi (0 : Int32), vi (1 : Int32)] [(.int (f8_2_0_0 k q2 q3 w0_422 w1_422))]) := fun t_ k_ => go466 t_ (st467.trans k_)
          have F470 : Arv Z T422.heap b361 k361 .long (2 : Int32) [(.long q2), (.long q3)] (.long (0 : Int64)) := ((F414.keep Kc416 (ninS ne389 (ninS ne401 (ninS ne405 (ninS ne408 nin0))))).keep Kc422 (ninS ne389 (ninS ne401 (ninS ne405 (ninS ne408 nin0)))))
          have go471 : Go p e below s₁ F0 T467 (mkF m 125 #[vi p1, vj q2, .second, vj q3, .second, vj q4, .second, vj q5, .second, vi p6, vi (2 : Int32), vi (1 : Int32), vr b361, vr b373, vi k, vr b387, vi (0 : Int32), vi (1 : Int32)] [(.int k), (.ref b361), (.int (f8_2_0_0 k q2 q3 w0_422 w1_422))]) := by
            intro t_ k_
            refine go469 t_ ?_
            refine o_aload X467 hx (hb hby at_121) rfl rfl ?_
            refine o_iload X467 hx (hb hby at_123) rfl ?_
            exact k_
          obtain ⟨_, _, ⟨T472, L472, k472, n472⟩, -, X472, ⟨Lc472, hQ472, l472, y472, z472⟩, st472⟩ := Jvm.LawKit.callS X467 hx (y := y_7) hown (mvT hZ (own_w hw 52 rfl)) (mvT hZ (own_w hw 53 rfl)) (mvT hZ (own_w hw 54 rfl)) (mvT hZ (own_w hw 55 rfl)) (by decide) (backOf (W := 1) (rm9_0 l Z a0 hw [] b361 k k361 q2 q3 (T422.heap) n0 Z423 F470 hb112_465) hZ (own_w hw 55 rfl) (own_w hw 54 rfl) (by decide) (by decide)) (g := (mkF m 125 #[vi p1, vj q2, .second, vj q3, .second, vj q4, .second, vj q5, .second, vi p6, vi (2 : Int32), vi (1 : Int32), vr b361, vr b373, vi k, vr b387, vi (0 : Int32), vi (1 : Int32)] [(.int k), (.ref b361), (.int (f8_2_0_0 k q2 q3 w0_422 w1_422))])) rfl (by rw [hml]; rfl) (argsL := [(.ref b361), (.int k)]) (rest := [(.int (f8_2_0_0 k q2 q3 w0_422 w1_422))]) (lenOf pd0_3 rfl) rfl (by show 2 * 0 + _ ≤ _; exact Nat.le_of_eq rfl) (hb hby at_125) (fun _ _ => ⟨rfl, eh467, (by decide : 6 + 0 ≤ _), (by decide : 89 + 0 ≤ _)⟩)
          dsimp only [Pt.U, Pt.locs, Pt.cells, Pt.slots] at X472 l472 y472 z472 st472 hQ472
          subst l472 y472 z472
          obtain ⟨rfl, Nq472, eh472⟩ := hQ472
          have N472 := Fr.app N467 Nq472
          have go473 : Go p e below s₁ F0 T472 (mkF m 128 #[vi p1, vj q2, .second, vj q3, .second, vj q4, .second, vj q5, .second, vi p6, vi (2 : Int32), vi (1 : Int32), vr b361, vr b373, vi k, vr b387, vi (0 : Int32), vi (1 : Int32)] [(.int (f9_0 k q2 q3)), (.int (f8_2_0_0 k q2 q3 w0_422 w1_422))]) := fun t_ k_ => go471 t_ (st472 t_ k_)
          have hd474 : (f8_2_0_0 k q2 q3 w0_422 w1_422) = (f9_0 k q2 q3) := own_bit _ _
          have go475 : Go p e below s₁ F0 T472 (mkF m 137 #[vi p1, vj q2, .second, vj q3, .second, vj q4, .second, vj q5, .second, vi p6, vi (2 : Int32), vi (1 : Int32), vr b361, vr b373, vi k, vr b387, vi (0 : Int32), vi (1 : Int32)] [(.int k), (.int (1 : Int32)), (.ref b387)]) := by
            intro t_ k_
            refine go473 t_ ?_
            refine o_icmpNo X472 hx (hb hby at_128) (teq hd474).2 ?_
            refine o_aload X472 hx (hb hby at_131) rfl rfl ?_
            refine o_iload X472 hx (hb hby at_133) rfl ?_
            refine o_iload X472 hx (hb hby at_135) rfl ?_
            exact k_
          obtain ⟨cq476, kq476, q476a, q476b, q476c⟩ := isOf hZ eh472 F468
          obtain ⟨_, _, ⟨T476, L476, k476, n476⟩, -, X476, ⟨Lc476, hQ476, l476, y476, z476⟩, st476⟩ := X472.virtualBack hx (y := y_6) (z := y_6) hown (mvT hZ (own_w hw 47 rfl)) (mvT hZ (own_w hw 48 rfl)) (notFace_of_selects (args := #[]) (mvT hZ (own_w hw 50 rfl))) (mvT hZ (own_w hw 50 rfl)) (mvT hZ (own_w hw 49 rfl)) (by decide) (backOf (W := 0) (rm8_2_1_0 l Z a0 hw [] b387 k bw_399 kw_399 q2 q3 w0_422 w1_422 (T422.heap) n0 Z423 Fwi_422 Fwo_422 Vw_422 (own_d0 (own_k128 h_k).1 hb112_465)) hZ (own_w hw 51 rfl) (own_w hw 4 rfl) (by decide) (by decide)) q476a q476c (g := (mkF m 137 #[vi p1, vj q2, .second, vj q3, .second, vj q4, .second, vj q5, .second, vi p6, vi (2 : Int32), vi (1 : Int32), vr b361, vr b373, vi k, vr b387, vi (0 : Int32), vi (1 : Int32)] [(.int k), (.int (1 : Int32)), (.ref b387)])) rfl (by rw [hml]; rfl) (Steps.refl _) (argsL := [(.int (1 : Int32)), (.int k)]) (rest := []) (lenOf pd0_2 rfl) rfl (by show 2 * 0 + _ ≤ _; exact Nat.le_of_eq rfl) (hb hby at_137) (fun _ _ => ⟨rfl, eh472, (by decide : 6 + 0 ≤ _), (by decide : 89 + 0 ≤ _)⟩)
          dsimp only [Pt.U, Pt.locs, Pt.cells, Pt.slots] at X476 l476 y476 z476 st476 hQ476
          subst l476 y476 z476
          obtain ⟨rfl, Nq476, eh476⟩ := hQ476
          have N476 := Fr.app N472 Nq476
          have go477 : Go p e below s₁ F0 T476 (mkF m 140 #[vi p1, vj q2, .second, vj q3, .second, vj q4, .second, vj q5, .second, vi p6, vi (2 : Int32), vi (1 : Int32), vr b361, vr b373, vi k, vr b387, vi (0 : Int32), vi (1 : Int32)] [(.int (f8_2_1_0 k q2 q3 w0_422 w1_422))]) := fun t_ k_ => go475 t_ (st476.trans k_)
          have F478 : Arv Z T422.heap b373 k373 .long (2 : Int32) [(.long q2), (.long q3)] (.long (0 : Int64)) := (F420.keep Kc422 (ninS ne390 (ninS ne403 (ninS ne406 (ninS ne409 nin0)))))
          have go479 : Go p e below s₁ F0 T476 (mkF m 144 #[vi p1, vj q2, .second, vj q3, .second, vj q4, .second, vj q5, .second, vi p6, vi (2 : Int32), vi (1 : Int32), vr b361, vr b373, vi k, vr b387, vi (0 : Int32), vi (1 : Int32)] [(.int k), (.ref b373), (.int (f8_2_1_0 k q2 q3 w0_422 w1_422))]) := by
            intro t_ k_
            refine go477 t_ ?_
            refine o_aload X476 hx (hb hby at_140) rfl rfl ?_
            refine o_iload X476 hx (hb hby at_142) rfl ?_
            exact k_
          obtain ⟨_, _, ⟨T480, L480, k480, n480⟩, -, X480, ⟨Lc480, hQ480, l480, y480, z480⟩, st480⟩ := Jvm.LawKit.callS X476 hx (y := y_7) hown (mvT hZ (own_w hw 52 rfl)) (mvT hZ (own_w hw 53 rfl)) (mvT hZ (own_w hw 54 rfl)) (mvT hZ (own_w hw 55 rfl)) (by decide) (backOf (W := 1) (rm9_0 l Z a0 hw [] b373 k k373 q2 q3 (T422.heap) n0 Z423 F478 hb112_465) hZ (own_w hw 55 rfl) (own_w hw 54 rfl) (by decide) (by decide)) (g := (mkF m 144 #[vi p1, vj q2, .second, vj q3, .second, vj q4, .second, vj q5, .second, vi p6, vi (2 : Int32), vi (1 : Int32), vr b361, vr b373, vi k, vr b387, vi (0 : Int32), vi (1 : Int32)] [(.int k), (.ref b373), (.int (f8_2_1_0 k q2 q3 w0_422 w1_422))])) rfl (by rw [hml]; rfl) (argsL := [(.ref b373), (.int k)]) (rest := [(.int (f8_2_1_0 k q2 q3 w0_422 w1_422))]) (lenOf pd0_3 rfl) rfl (by show 2 * 0 + _ ≤ _; exact Nat.le_of_eq rfl) (hb hby at_144) (fun _ _ => ⟨rfl, eh476, (by decide : 6 + 0 ≤ _), (by decide : 89 + 0 ≤ _)⟩)
          dsimp only [Pt.U, Pt.locs, Pt.cells, Pt.slots] at X480 l480 y480 z480 st480 hQ480
          subst l480 y480 z480
          obtain ⟨rfl, Nq480, eh480⟩ := hQ480
          have N480 := Fr.app N476 Nq480
          have go481 : Go p e below s₁ F0 T480 (mkF m 147 #[vi p1, vj q2, .second, vj q3, .second, vj q4, .second, vj q5, .second, vi p6, vi (2 : Int32), vi (1 : Int32), vr b361, vr b373, vi k, vr b387, vi (0 : Int32), vi (1 : Int32)] [(.int (f9_0 k q2 q3)), (.int (f8_2_1_0 k q2 q3 w0_422 w1_422))]) := fun t_ k_ => go479 t_ (st480 t_ k_)
          have hd482 : (f8_2_1_0 k q2 q3 w0_422 w1_422) = (f9_0 k q2 q3) := (by rw [(own_r hP_422 hcs425).2.1]; exact own_bit _ _)
          have go483 : Go p e below s₁ F0 T480 (mkF m 155 #[vi p1, vj q2, .second, vj q3, .second, vj q4, .second, vj q5, .second, vi p6, vi (2 : Int32), vi (1 : Int32), vr b361, vr b373, vi k, vr b387, vi (0 : Int32), vi (1 : Int32)] [(.int (1 : Int32))]) := by
            intro t_ k_
            refine go481 t_ ?_
            refine o_icmpNo X480 hx (hb hby at_147) (teq hd482).2 ?_
            refine o_iconst X480 hx (hb hby at_150) (v := 1) rfl ?_
            refine o_goto X480 hx (hb hby at_151) (pc' := 155) rfl (by decide) ?_
            exact k_
          obtain ⟨fs, hr, hrun, hended, hW, hsame⟩ := X480.leave (v := some (.int (1 : Int32))) (fun h => by rw [Bd.returns] at h; cases h)
          refine ⟨_, _, pre0 _ (go483 _ ?_), hrun, hended, _, _, rfl, ?_, ⟨_, rfl⟩, hW, hsame.mono (by decide) (by decide)⟩
          · skip
            exact retN X480 hx (t := .boolean) Bd.returns (by simp) (hb hby at_155) hr
          · show Q0 Z p1 q2 q3 q4 q5 p6 h0 n0 _ T480.heap _
            rw [eh480]
            exact ⟨rfl, N480⟩
        · skip
          have go484 : Go p e below s₁ F0 T422 (mkF m 118 #[vi p1, vj q2, .second, vj q3, .second, vj q4, .second, vj q5, .second, vi p6, vi (2 : Int32), vi (1 : Int32), vr b361, vr b373, vi k, vr b387, vi (0 : Int32), vi (1 : Int32)] [(.int k), (.int (0 : Int32)), (.ref b387)]) := by
            intro t_ k_
            refine go464 t_ ?_
            refine o_aload X422 hx (hb hby at_112) rfl rfl ?_
            refine o_iload X422 hx (hb hby at_114) rfl ?_
            refine o_iload X422 hx (hb hby at_116) rfl ?_
            exact k_
          have F486 : Exa Z T422.heap b387 c_0 := (F419.keep Kc422)
          obtain ⟨cq485, kq485, q485a, q485b, q485c⟩ := isOf hZ rfl F486
          obtain ⟨_, _, ⟨T485, L485, k485, n485⟩, -, X485, ⟨Lc485, hQ485, l485, y485, z485⟩, st485⟩ := X422.virtualBack hx (y := y_6) (z := y_6) hown (mvT hZ (own_w hw 47 rfl)) (mvT hZ (own_w hw 48 rfl)) (notFace_of_selects (args := #[]) (mvT hZ (own_w hw 50 rfl))) (mvT hZ (own_w hw 50 rfl)) (mvT hZ (own_w hw 49 rfl)) (by decide) (backOf (W := 0) (rm8_2_0_1 l Z a0 hw [] b387 k bw_399 kw_399 q2 q3 w0_422 w1_422 (T422.heap) n0 Z423 Fwi_422 Fwo_422 Vw_422 (own_d1 (own_k128 h_k).2 hb112_465)) hZ (own_w hw 51 rfl) (own_w hw 4 rfl) (by decide) (by decide)) q485a q485c (g := (mkF m 118 #[vi p1, vj q2, .second, vj q3, .second, vj q4, .second, vj q5, .second, vi p6, vi (2 : Int32), vi (1 : Int32), vr b361, vr b373, vi k, vr b387, vi (0 : Int32), vi (1 : Int32)] [(.int k), (.int (0 : Int32)), (.ref b387)])) rfl (by rw [hml]; rfl) (Steps.refl _) (argsL := [(.int (0 : Int32)), (.int k)]) (rest := []) (lenOf pd0_2 rfl) rfl (by show 2 * 0 + _ ≤ _; exact Nat.le_of_eq rfl) (hb hby at_118) (fun _ _ => ⟨rfl, rfl, (by decide : 6 + 0 ≤ _), (by decide : 89 + 0 ≤ _)⟩)
          dsimp only [Pt.U, Pt.locs, Pt.cells, Pt.slots] at X485 l485 y485 z485 st485 hQ485
          subst l485 y485 z485
          obtain ⟨rfl, Nq485, eh485⟩ := hQ485
          have N485 := Fr.app N422 Nq485
          have go487 : Go p e below s₁ F0 T485 (mkF m 121 #[vi p1, vj q2, .second, vj q3, .second, vj q4, .second, vj q5, .second, vi p6, vi (2 : Int32), vi (1 : Int32), vr b361, vr b373, vi k, vr b387, vi (0 : Int32), vi (1 : Int32)] [(.int (f8_2_0_1 k q2 q3 w0_422 w1_422))]) := fun t_ k_ => go484 t_ (st485.trans k_)
          have F488 : Arv Z T422.heap b361 k361 .long (2 : Int32) [(.long q2), (.long q3)] (.long (0 : Int64)) := ((F414.keep Kc416 (ninS ne389 (ninS ne401 (ninS ne405 (ninS ne408 nin0))))).keep Kc422 (ninS ne389 (ninS ne401 (ninS ne405 (ninS ne408 nin0)))))
          have go489 : Go p e below s₁ F0 T485 (mkF m 125 #[vi p1, vj q2, .second, vj q3, .second, vj q4, .second, vj q5, .second, vi p6, vi (2 : Int32), vi (1 : Int32), vr b361, vr b373, vi k, vr b387, vi (0 : Int32), vi (1 : Int32)] [(.int k), (.ref b361), (.int (f8_2_0_1 k q2 q3 w0_422 w1_422))]) := by
            intro t_ k_
            refine go487 t_ ?_
            refine o_aload X485 hx (hb hby at_121) rfl rfl ?_
            refine o_iload X485 hx (hb hby at_123) rfl ?_
            exact k_
          obtain ⟨_, _, ⟨T490, L490, k490, n490⟩, -, X490, ⟨Lc490, hQ490, l490, y490, z490⟩, st490⟩ := Jvm.LawKit.callS X485 hx (y := y_7) hown (mvT hZ (own_w hw 52 rfl)) (mvT hZ (own_w hw 53 rfl)) (mvT hZ (own_w hw 54 rfl)) (mvT hZ (own_w hw 55 rfl)) (by decide) (backOf (W := 1) (rm9_1 l Z a0 hw [] b361 k k361 q2 q3 (T422.heap) n0 Z423 F488 hb112_465) hZ (own_w hw 55 rfl) (own_w hw 54 rfl) (by decide) (by decide)) (g := (mkF m 125 #[vi p1, vj q2, .second, vj q3, .second, vj q4, .second, vj q5, .second, vi p6, vi (2 : Int32), vi (1 : Int32), vr b361, vr b373, vi k, vr b387, vi (0 : Int32), vi (1 : Int32)] [(.int k), (.ref b361), (.int (f8_2_0_1 k q2 q3 w0_422 w1_422))])) rfl (by rw [hml]; rfl) (argsL := [(.ref b361), (.int k)]) (rest := [(.int (f8_2_0_1 k q2 q3 w0_422 w1_422))]) (lenOf pd0_3 rfl) rfl (by show 2 * 0 + _ ≤ _; exact Nat.le_of_eq rfl) (hb hby at_125) (fun _ _ => ⟨rfl, eh485, (by decide : 6 + 0 ≤ _), (by decide : 89 + 0 ≤ _)⟩)
          dsimp only [Pt.U, Pt.locs, Pt.cells, Pt.slots] at X490 l490 y490 z490 st490 hQ490
          subst l490 y490 z490
          obtain ⟨rfl, Nq490, eh490⟩ := hQ490
          have N490 := Fr.app N485 Nq490
          have go491 : Go p e below s₁ F0 T490 (mkF m 128 #[vi p1, vj q2, .second, vj q3, .second, vj q4, .second, vj q5, .second, vi p6, vi (2 : Int32), vi (1 : Int32), vr b361, vr b373, vi k, vr b387, vi (0 : Int32), vi (1 : Int32)] [(.int (f9_1 k q2 q3)), (.int (f8_2_0_1 k q2 q3 w0_422 w1_422))]) := fun t_ k_ => go489 t_ (st490 t_ k_)
          have hd492 : (f8_2_0_1 k q2 q3 w0_422 w1_422) = (f9_1 k q2 q3) := own_bit _ _
          have go493 : Go p e below s₁ F0 T490 (mkF m 137 #[vi p1, vj q2, .second, vj q3, .second, vj q4, .second, vj q5, .second, vi p6, vi (2 : Int32), vi (1 : Int32), vr b361, vr b373, vi k, vr b387, vi (0 : Int32), vi (1 : Int32)] [(.int k), (.int (1 : Int32)), (.ref b387)]) := by
            intro t_ k_
            refine go491 t_ ?_
            refine o_icmpNo X490 hx (hb hby at_128) (teq hd492).2 ?_
            refine o_aload X490 hx (hb hby at_131) rfl rfl ?_
            refine o_iload X490 hx (hb hby at_133) rfl ?_
            refine o_iload X490 hx (hb hby at_135) rfl ?_
            exact k_
          obtain ⟨cq494, kq494, q494a, q494b, q494c⟩ := isOf hZ eh490 F486
          obtain ⟨_, _, ⟨T494, L494, k494, n494⟩, -, X494, ⟨Lc494, hQ494, l494, y494, z494⟩, st494⟩ := X490.virtualBack hx (y := y_6) (z := y_6) hown (mvT hZ (own_w hw 47 rfl)) (mvT hZ (own_w hw 48 rfl)) (notFace_of_selects (args := #[]) (mvT hZ (own_w hw 50 rfl))) (mvT hZ (own_w hw 50 rfl)) (mvT hZ (own_w hw 49 rfl)) (by decide) (backOf (W := 0) (rm8_2_1_1 l Z a0 hw [] b387 k bw_399 kw_399 q2 q3 w0_422 w1_422 (T422.heap) n0 Z423 Fwi_422 Fwo_422 Vw_422 (own_d1 (own_k128 h_k).2 hb112_465)) hZ (own_w hw 51 rfl) (own_w hw 4 rfl) (by decide) (by decide)) q494a q494c (g := (mkF m 137 #[vi p1, vj q2, .second, vj q3, .second, vj q4, .second, vj q5, .second, vi p6, vi (2 : Int32), vi (1 : Int32), vr b361, vr b373, vi k, vr b387, vi (0 : Int32), vi (1 : Int32)] [(.int k), (.int (1 : Int32)), (.ref b387)])) rfl (by rw [hml]; rfl) (Steps.refl _) (argsL := [(.int (1 : Int32)), (.int k)]) (rest := []) (lenOf pd0_2 rfl) rfl (by show 2 * 0 + _ ≤ _; exact Nat.le_of_eq rfl) (hb hby at_137) (fun _ _ => ⟨rfl, eh490, (by decide : 6 + 0 ≤ _), (by decide : 89 + 0 ≤ _)⟩)
          dsimp only [Pt.U, Pt.locs, Pt.cells, Pt.slots] at X494 l494 y494 z494 st494 hQ494
          subst l494 y494 z494
          obtain ⟨rfl, Nq494, eh494⟩ := hQ494
          have N494 := Fr.app N490 Nq494
          have go495 : Go p e below s₁ F0 T494 (mkF m 140 #[vi p1, vj q2, .second, vj q3, .second, vj q4, .second, vj q5, .second, vi p6, vi (2 : Int32), vi (1 : Int32), vr b361, vr b373, vi k, vr b387, vi (0 : Int32), vi (1 : Int32)] [(.int (f8_2_1_1 k q2 q3 w0_422 w1_422))]) := fun t_ k_ => go493 t_ (st494.trans k_)
          have F496 : Arv Z T422.heap b373 k373 .long (2 : Int32) [(.long q2), (.long q3)] (.long (0 : Int64)) := (F420.keep Kc422 (ninS ne390 (ninS ne403 (ninS ne406 (ninS ne409 nin0)))))
          have go497 : Go p e below s₁ F0 T494 (mkF m 144 #[vi p1, vj q2, .second, vj q3, .second, vj q4, .second, vj q5, .second, vi p6, vi (2 : Int32), vi (1 : Int32), vr b361, vr b373, vi k, vr b387, vi (0 : Int32), vi (1 : Int32)] [(.int k), (.ref b373), (.int (f8_2_1_1 k q2 q3 w0_422 w1_422))]) := by
            intro t_ k_
            refine go495 t_ ?_
            refine o_aload X494 hx (hb hby at_140) rfl rfl ?_
            refine o_iload X494 hx (hb hby at_142) rfl ?_
            exact k_
          obtain ⟨_, _, ⟨T498, L498, k498, n498⟩, -, X498, ⟨Lc498, hQ498, l498, y498, z498⟩, st498⟩ := Jvm.LawKit.callS X494 hx (y := y_7) hown (mvT hZ (own_w hw 52 rfl)) (mvT hZ (own_w hw 53 rfl)) (mvT hZ (own_w hw 54 rfl)) (mvT hZ (own_w hw 55 rfl)) (by decide) (backOf (W := 1) (rm9_1 l Z a0 hw [] b373 k k373 q2 q3 (T422.heap) n0 Z423 F496 hb112_465) hZ (own_w hw 55 rfl) (own_w hw 54 rfl) (by decide) (by decide)) (g := (mkF m 144 #[vi p1, vj q2, .second, vj q3, .second, vj q4, .second, vj q5, .second, vi p6, vi (2 : Int32), vi (1 : Int32), vr b361, vr b373, vi k, vr b387, vi (0 : Int32), vi (1 : Int32)] [(.int k), (.ref b373), (.int (f8_2_1_1 k q2 q3 w0_422 w1_422))])) rfl (by rw [hml]; rfl) (argsL := [(.ref b373), (.int k)]) (rest := [(.int (f8_2_1_1 k q2 q3 w0_422 w1_422))]) (lenOf pd0_3 rfl) rfl (by show 2 * 0 + _ ≤ _; exact Nat.le_of_eq rfl) (hb hby at_144) (fun _ _ => ⟨rfl, eh494, (by decide : 6 + 0 ≤ _), (by decide : 89 + 0 ≤ _)⟩)
          dsimp only [Pt.U, Pt.locs, Pt.cells, Pt.slots] at X498 l498 y498 z498 st498 hQ498
          subst l498 y498 z498
          obtain ⟨rfl, Nq498, eh498⟩ := hQ498
          have N498 := Fr.app N494 Nq498
          have go499 : Go p e below s₁ F0 T498 (mkF m 147 #[vi p1, vj q2, .second, vj q3, .second, vj q4, .second, vj q5, .second, vi p6, vi (2 : Int32), vi (1 : Int32), vr b361, vr b373, vi k, vr b387, vi (0 : Int32), vi (1 : Int32)] [(.int (f9_1 k q2 q3)), (.int (f8_2_1_1 k q2 q3 w0_422 w1_422))]) := fun t_ k_ => go497 t_ (st498 t_ k_)
          have hd500 : (f8_2_1_1 k q2 q3 w0_422 w1_422) = (f9_1 k q2 q3) := (by rw [(own_r hP_422 hcs425).2.2]; exact own_bit _ _)
          have go501 : Go p e below s₁ F0 T498 (mkF m 155 #[vi p1, vj q2, .second, vj q3, .second, vj q4, .second, vj q5, .second, vi p6, vi (2 : Int32), vi (1 : Int32), vr b361, vr b373, vi k, vr b387, vi (0 : Int32), vi (1 : Int32)] [(.int (1 : Int32))]) := by
            intro t_ k_
            refine go499 t_ ?_
            refine o_icmpNo X498 hx (hb hby at_147) (teq hd500).2 ?_
            refine o_iconst X498 hx (hb hby at_150) (v := 1) rfl ?_
            refine o_goto X498 hx (hb hby at_151) (pc' := 155) rfl (by decide) ?_
            exact k_
          obtain ⟨fs, hr, hrun, hended, hW, hsame⟩ := X498.leave (v := some (.int (1 : Int32))) (fun h => by rw [Bd.returns] at h; cases h)
          refine ⟨_, _, pre0 _ (go501 _ ?_), hrun, hended, _, _, rfl, ?_, ⟨_, rfl⟩, hW, hsame.mono (by decide) (by decide)⟩
          · skip
            exact retN X498 hx (t := .boolean) Bd.returns (by simp) (hb hby at_155) hr
          · show Q0 Z p1 q2 q3 q4 q5 p6 h0 n0 _ T498.heap _
            rw [eh498]
            exact ⟨rfl, N498⟩

set_option maxRecDepth 65536 in
set_option maxHeartbeats 40000000 in
theorem comes_1 {Post : Tables → Env → Array Value → State → Outcome → State → Prop} (hpost : ∀ tb e args s v u, (limb_1_1.after args s (.returned v) u = true ∧ limb_1_2.after args s (.returned v) u = true ∧ True) → FrameEnd s (.returned v) u (Jvm.fieldLocs frame_1_writes args s ++ Jvm.arrayLocs frame_1_arrays args s ++ Jvm.staticLocs frame_1_statics s) 24 256 → Post tb e args s (.returned v) u) :
    ArmFor flags0 classFile x code maxLocals ret World_1 tables_1 room_1 Calls_1 rest_1 Pre_1 Post := by
  intro l hfl _ _ p e ha hc hk s m args below hf hA hF happ hP
  obtain ⟨hcalls, hrest, hpre⟩ := hP
  obtain ⟨-, -, -, hnamed, -, -, -, hat⟩ := (Spec.applies_iff hf).mp happ
  obtain ⟨hg, hn⟩ := and_e (Cond.before_iff.mp (show (Jvm.Cond.and given_1 narrow_1).before args s = true from hpre))
  obtain ⟨g1, g2⟩ := and_e hg
  obtain ⟨g3, g4⟩ := and_e g2
  obtain ⟨g5, g6⟩ := and_e g4
  obtain ⟨g7, g8⟩ := and_e g6
  obtain ⟨g9, g10⟩ := and_e g8
  obtain ⟨g11, g12⟩ := and_e g10
  obtain ⟨w0, w1, w2, w3, w4, w5, rfl⟩ : ∃ w0 w1 w2 w3 w4 w5 : Value, args = #[w0, w1, w2, w3, w4, w5] := by
    have hs : args.size = 6 := by simpa [Cond.value, given_1] using g1
    obtain ⟨L⟩ := args
    match L, hs with
    | [w0, w1, w2, w3, w4, w5], _ => exact ⟨w0, w1, w2, w3, w4, w5, rfl⟩
  have hw := fun d (hd : d ∈ tables_1) => atoms_spec (ws := Jvm.Cond.code x code maxLocals ret :: tables_1) hat d (List.mem_cons_of_mem _ hd)
  have hfit : Fit s := fun {y c} hc i hi => by
    obtain ⟨ha, rfl⟩ := Array.getElem?_eq_some_iff.mp hc
    have q := List.all_eq_true.mp ((Array.all_eq_true_iff_forall_mem.mp hF) _ (Array.getElem_mem ha)) i (List.mem_range.mpr hi)
    simpa [Array.getElem?_eq_getElem hi] using q
  obtain ⟨i0, ei0⟩ := is_v g3
  obtain rfl : w0 = (.int i0) := Option.some.inj ei0
  obtain ⟨i1, ei1⟩ := isL_v g5
  obtain rfl : w1 = (.long i1) := Option.some.inj ei1
  obtain ⟨i2, ei2⟩ := isL_v g7
  obtain rfl : w2 = (.long i2) := Option.some.inj ei2
  obtain ⟨i3, ei3⟩ := isL_v g9
  obtain rfl : w3 = (.long i3) := Option.some.inj ei3
  obtain ⟨i4, ei4⟩ := isL_v g11
  obtain rfl : w4 = (.long i4) := Option.some.inj ei4
  obtain ⟨i5, ei5⟩ := is_v g12
  obtain rfl : w5 = (.int i5) := Option.some.inj ei5
  obtain ⟨n, o, h1, h2, h3, _, L, rfl, ⟨rfl, N⟩, hq⟩ := rm0 l s _ hw tables_1 i0 i1 i2 i3 i4 i5  s.heap s.heap.size (Nat.le_refl _)  p e ha hc hk s m _ below hf ((Spec.applies_iff_loose hf).mp happ).1 ⟨rfl, State.Warmed39.refl s, rfl⟩ trivial
  refine ⟨n, _, h1, h2, h3, hpost _ _ _ _ _ _ ⟨Cond.after_iff.mpr rfl, Cond.after_iff.mpr (eq_i res_at (Term.int_eval (1)) rfl), trivial⟩ ⟨hq.1, hq.2.1, (hq.2.2.sift fun y hy => Or.inr (N y hy)).mono (by decide) (by decide)⟩⟩
theorem main_1_1 : Claimed_1_1 := comes_1 fun _ _ _ _ _ _ h hF => ⟨h.1, hF⟩
theorem main_1_2 : Claimed_1_2 := comes_1 fun _ _ _ _ _ _ h hF => ⟨h.2.1, hF⟩
end Jvm.Pilot.@@N@@
namespace Jvm.Pilot.@@N@@
open Jvm Jvm.ClassFile Sem Op Lib Jvm.Free Jvm.Stand Jvm.Pilot.@@N@@.Jvm.D
/-! MADE BY PROGRAM (witnessworld.py) out of the Statement's table words and the real class files: 17 classes; the members and pool entries that the words name. The judged class is class 1, her method 1. -/
namespace start1
open Jvm.ClassFile
def u (s : String) : CpInfo := .utf8 (stringToUtf16 s)
/-- a pool by its gaps: so many unusable entries, then the entry; so many at the end -/
def gap : Nat → List CpInfo → List CpInfo
  | 0, r => r
  | n + 1, r => .unusable :: gap n r
def poolList (es : List (Nat × CpInfo)) (last : Nat) : List CpInfo := es.foldr (fun e r => gap e.1 (e.2 :: r)) (gap last [])
def pool (es : List (Nat × CpInfo)) (last : Nat) : Array CpInfo := ⟨poolList es last⟩
def fileOf (pool : Array CpInfo) (this : Nat) (attrs : Array Attribute := #[]) (ms : Array MethodInfo := #[]) (fl : Nat := 33) (sup : Nat := 0) (ifs : Array Nat := #[]) (fds : Array FieldInfo := #[]) : ClassFile where
  minorVersion := 0
  majorVersion := 65
  constantPool := pool
  accessFlags := fl
  thisClass := this
  superClass := sup
  interfaces := ifs
  fields := fds
  methods := ms
  attributes := attrs
def plain (name : String) (sup : Option ClassId) : Class where
  name := name
  kind := .ordinary
  loader := none
  accessFlags := 33
  super := sup
  interfaces := #[]
  cf := none
  fields := #[]
  methods := #[]
  instanceTypes := #[]
  staticTypes := #[]
  resolved := #[]
  callSites := []
  init := .initialized
  statics := none
  mirror := none

def pool0 : Array CpInfo := pool [(5, u "<init>"), (0, u "()V"), (1, .class_ 10), (1, u "java/lang/Object")] 113

def k0c0 : Code := { maxStack := 0, maxLocals := 1, code := object_method_1_code, exceptionTable := #[], attributes := #[] }
def k0m0 : Method := { name := "<init>", desc := "()V", sig := { parameters := [], returnType := none }, accessFlags := 1, code := some k0c0 }
/-- java/lang/Object -/
def k0 : Class := { plain "java/lang/Object" none with
  accessFlags := 33
  interfaces := #[]
  cf := some (fileOf pool0 8 #[] #[{ accessFlags := 1, nameIndex := 5, descriptorIndex := 6, attributes := #[] }] 33 0 #[] #[])
  fields := #[]
  methods := #[k0m0]
  instanceTypes := #[]
  staticTypes := #[]
  resolved := Array.replicate 124 none
  statics := none }

def pool1 : Array CpInfo := pool [(2, .class_ 4), (1, u "java/lang/Object"), (0, u "<init>"), (0, u "()V"), (0, .integer 2147483647), (0, .class_ 9), (0, u "com/example/grammar_game_solver/grammargamesolver/summary/NumberedSets"), (0, .methodref 8 11), (0, .nameAndType 5 12), (0, u "(I)V"), (0, .methodref 8 14), (0, .nameAndType 15 16), (0, u "numberOf"), (0, u "([J)I"), (0, .methodref 8 18), (0, .nameAndType 19 20), (0, u "contains"), (0, u "(II)Z"), (0, .methodref 22 23), (0, .class_ 24), (0, .nameAndType 25 26), (0, u "com/example/grammar_game_solver/grammargamesolver/summary/NumberedSetsContainsPinLaw"), (0, u "holds"), (0, u "([JI)Z"), (2, u "law"), (0, u "(IJJJJI)Z")] 5

def k1m0 : Method := { name := "<init>", desc := "()V", sig := { parameters := [], returnType := none }, accessFlags := 1, code := none }
def k1c1 : Code := { maxStack := 4, maxLocals := 18, code := code, exceptionTable := #[], attributes := #[] }
def k1m1 : Method := { name := "law", desc := "(IJJJJI)Z", sig := { parameters := [.int, .long, .long, .long, .long, .int], returnType := some .boolean }, accessFlags := 9, code := some k1c1 }
def k1c2 : Code := { maxStack := 4, maxLocals := 4, code := method_3_code, exceptionTable := #[], attributes := #[] }
def k1m2 : Method := { name := "holds", desc := "([JI)Z", sig := { parameters := [(.array .long), .int], returnType := some .boolean }, accessFlags := 10, code := some k1c2 }
/-- com/example/grammar_game_solver/grammargamesolver/summary/NumberedSetsContainsPinLaw -/
def k1 : Class := { plain "com/example/grammar_game_solver/grammargamesolver/summary/NumberedSetsContainsPinLaw" (some 0) with
  accessFlags := 49
  interfaces := #[]
  cf := some (fileOf pool1 22 #[] #[{ accessFlags := 1, nameIndex := 5, descriptorIndex := 6, attributes := #[] }, { accessFlags := 9, nameIndex := 29, descriptorIndex := 30, attributes := #[] }, { accessFlags := 10, nameIndex := 25, descriptorIndex := 26, attributes := #[] }] 49 2 #[] #[])
  fields := #[]
  methods := #[k1m0, k1m1, k1m2]
  instanceTypes := #[]
  staticTypes := #[]
  resolved := Array.replicate 36 none
  statics := none }

def pool2 : Array CpInfo := pool [(1, .methodref 2 3), (0, .class_ 4), (0, .nameAndType 5 6), (0, u "java/lang/Object"), (0, u "<init>"), (0, u "()V"), (0, .fieldref 8 9), (0, .class_ 10), (0, .nameAndType 11 12), (0, u "com/example/grammar_game_solver/grammargamesolver/summary/NumberedSets"), (0, u "width"), (0, u "I"), (0, .fieldref 8 14), (0, .nameAndType 15 16), (0, u "words"), (0, u "[J"), (0, .fieldref 8 18), (0, .nameAndType 19 20), (0, u "hashes"), (0, u "[I"), (0, .fieldref 8 22), (0, .nameAndType 23 20), (0, u "slots"), (0, .fieldref 8 25), (0, .nameAndType 26 12), (0, u "count"), (0, .methodref 8 28), (0, .nameAndType 29 30), (0, u "numberOf"), (0, u "([JI)I"), (0, .methodref 32 33), (0, .class_ 34), (0, .nameAndType 35 36), (0, u "java/lang/Long"), (0, u "hashCode"), (0, u "(J)I"), (0, .methodref 8 38), (0, .nameAndType 39 40), (0, u "slotOf"), (0, u "(II)I"), (0, .methodref 8 42), (0, .nameAndType 43 44), (0, u "equalsAt"), (0, u "(I[JI)Z"), (9, .methodref 55 56), (0, .class_ 57), (0, .nameAndType 58 59), (0, u "java/lang/System"), (0, u "arraycopy"), (0, u "(Ljava/lang/Object;ILjava/lang/Object;II)V"), (3, .integer 2654435769), (0, u "FIRST_CAPACITY"), (2, u "(I)V"), (3, u "([J)I"), (4, u "contains"), (0, u "(II)Z")] 4

def k2c0 : Code := { maxStack := 3, maxLocals := 2, code := prog_63_method_1_code, exceptionTable := #[], attributes := #[] }
def k2m0 : Method := { name := "<init>", desc := "(I)V", sig := { parameters := [.int], returnType := none }, accessFlags := 0, code := some k2c0 }
def k2c1 : Code := { maxStack := 3, maxLocals := 2, code := prog_63_method_4_code, exceptionTable := #[], attributes := #[] }
def k2m1 : Method := { name := "numberOf", desc := "([J)I", sig := { parameters := [(.array .long)], returnType := some .int }, accessFlags := 0, code := some k2c1 }
def k2c2 : Code := { maxStack := 5, maxLocals := 7, code := prog_63_method_6_code, exceptionTable := #[], attributes := #[] }
def k2m2 : Method := { name := "numberOf", desc := "([JI)I", sig := { parameters := [(.array .long), .int], returnType := some .int }, accessFlags := 2, code := some k2c2 }
def k2c3 : Code := { maxStack := 5, maxLocals := 3, code := prog_63_method_8_code, exceptionTable := #[], attributes := #[] }
def k2m3 : Method := { name := "contains", desc := "(II)Z", sig := { parameters := [.int, .int], returnType := some .boolean }, accessFlags := 0, code := some k2c3 }
def k2c4 : Code := { maxStack := 5, maxLocals := 6, code := prog_63_method_10_code, exceptionTable := #[], attributes := #[] }
def k2m4 : Method := { name := "equalsAt", desc := "(I[JI)Z", sig := { parameters := [.int, (.array .long), .int], returnType := some .boolean }, accessFlags := 2, code := some k2c4 }
def k2c5 : Code := { maxStack := 3, maxLocals := 3, code := prog_63_method_12_code, exceptionTable := #[], attributes := #[] }
def k2m5 : Method := { name := "slotOf", desc := "(II)I", sig := { parameters := [.int, .int], returnType := some .int }, accessFlags := 10, code := some k2c5 }
/-- com/example/grammar_game_solver/grammargamesolver/summary/NumberedSets -/
def k2 : Class := { plain "com/example/grammar_game_solver/grammargamesolver/summary/NumberedSets" (some 0) with
  accessFlags := 32
  interfaces := #[]
  cf := some (fileOf pool2 8 #[] #[{ accessFlags := 0, nameIndex := 5, descriptorIndex := 67, attributes := #[] }, { accessFlags := 0, nameIndex := 29, descriptorIndex := 71, attributes := #[] }, { accessFlags := 2, nameIndex := 29, descriptorIndex := 30, attributes := #[] }, { accessFlags := 0, nameIndex := 76, descriptorIndex := 77, attributes := #[] }, { accessFlags := 2, nameIndex := 43, descriptorIndex := 44, attributes := #[] }, { accessFlags := 10, nameIndex := 39, descriptorIndex := 40, attributes := #[] }] 32 2 #[] #[{ accessFlags := 26, nameIndex := 64, descriptorIndex := 12, attributes := #[] }, { accessFlags := 18, nameIndex := 11, descriptorIndex := 12, attributes := #[] }, { accessFlags := 2, nameIndex := 15, descriptorIndex := 16, attributes := #[] }, { accessFlags := 2, nameIndex := 19, descriptorIndex := 20, attributes := #[] }, { accessFlags := 2, nameIndex := 23, descriptorIndex := 20, attributes := #[] }, { accessFlags := 2, nameIndex := 26, descriptorIndex := 12, attributes := #[] }])
  fields := #[{ name := "FIRST_CAPACITY", type := .int, accessFlags := 26, slot := 0, constantValue := 0 }, { name := "width", type := .int, accessFlags := 18, slot := 0, constantValue := 0 }, { name := "words", type := (.array .long), accessFlags := 2, slot := 1, constantValue := 0 }, { name := "hashes", type := (.array .int), accessFlags := 2, slot := 2, constantValue := 0 }, { name := "slots", type := (.array .int), accessFlags := 2, slot := 3, constantValue := 0 }, { name := "count", type := .int, accessFlags := 2, slot := 4, constantValue := 0 }]
  methods := #[k2m0, k2m1, k2m2, k2m3, k2m4, k2m5]
  instanceTypes := #[.int, (.array .long), (.array .int), (.array .int), .int]
  staticTypes := #[.int]
  resolved := Array.replicate 82 none
  statics := none }

def pool3 : Array CpInfo := pool [(1, .class_ 2), (0, u "java/io/Serializable"), (0, .class_ 4), (0, u "java/lang/Object")] 2

/-- java/io/Serializable -/
def k3 : Class := { plain "java/io/Serializable" (some 0) with
  accessFlags := 1537
  interfaces := #[]
  cf := some (fileOf pool3 1 #[] #[] 1537 3 #[] #[])
  fields := #[]
  methods := #[]
  instanceTypes := #[]
  staticTypes := #[]
  resolved := Array.replicate 7 none
  statics := none }

def pool4 : Array CpInfo := pool [(2, .class_ 4), (1, u "java/lang/Object"), (0, u "<init>"), (0, u "()V"), (1, .class_ 10), (1, u "java/lang/Number"), (2, .class_ 14), (0, u "java/io/Serializable"), (0, u "serialVersionUID"), (0, u "J")] 20

def k4m0 : Method := { name := "<init>", desc := "()V", sig := { parameters := [], returnType := none }, accessFlags := 1, code := none }
/-- java/lang/Number -/
def k4 : Class := { plain "java/lang/Number" (some 0) with
  accessFlags := 1057
  interfaces := #[3]
  cf := some (fileOf pool4 8 #[] #[{ accessFlags := 1, nameIndex := 5, descriptorIndex := 6, attributes := #[] }] 1057 2 #[13] #[{ accessFlags := 26, nameIndex := 15, descriptorIndex := 16, attributes := #[] }])
  fields := #[{ name := "serialVersionUID", type := .long, accessFlags := 26, slot := 0, constantValue := 0 }]
  methods := #[k4m0]
  instanceTypes := #[]
  staticTypes := #[.long]
  resolved := Array.replicate 37 none
  statics := none }

def pool5 : Array CpInfo := pool [(1, .class_ 2), (0, u "java/lang/Comparable"), (0, .class_ 4), (0, u "java/lang/Object")] 7

/-- java/lang/Comparable -/
def k5 : Class := { plain "java/lang/Comparable" (some 0) with
  accessFlags := 1537
  interfaces := #[]
  cf := some (fileOf pool5 1 #[] #[] 1537 3 #[] #[])
  fields := #[]
  methods := #[]
  instanceTypes := #[]
  staticTypes := #[]
  resolved := Array.replicate 12 none
  statics := none }

def pool6 : Array CpInfo := pool [(1, .class_ 2), (0, u "java/lang/constant/Constable"), (0, .class_ 4), (0, u "java/lang/Object")] 6

/-- java/lang/constant/Constable -/
def k6 : Class := { plain "java/lang/constant/Constable" (some 0) with
  accessFlags := 1537
  interfaces := #[]
  cf := some (fileOf pool6 1 #[] #[] 1537 3 #[] #[])
  fields := #[]
  methods := #[]
  instanceTypes := #[]
  staticTypes := #[]
  resolved := Array.replicate 11 none
  statics := none }

def pool7 : Array CpInfo := pool [(1, .class_ 2), (0, u "java/lang/constant/ConstantDesc"), (0, .class_ 4), (0, u "java/lang/Object")] 32

/-- java/lang/constant/ConstantDesc -/
def k7 : Class := { plain "java/lang/constant/ConstantDesc" (some 0) with
  accessFlags := 1537
  interfaces := #[]
  cf := some (fileOf pool7 1 #[] #[] 1537 3 #[] #[])
  fields := #[]
  methods := #[]
  instanceTypes := #[]
  staticTypes := #[]
  resolved := Array.replicate 37 none
  statics := none }

def pool8 : Array CpInfo := pool [(1, .class_ 2), (0, u "java/lang/Long"), (98, u "(J)I"), (133, .class_ 237), (1, u "java/lang/Long$LongCache"), (33, .class_ 272), (0, u "java/lang/Number"), (2, u "value"), (0, u "J"), (2, u "hashCode"), (81, u "TYPE"), (0, u "Ljava/lang/Class;"), (0, .class_ 364), (0, u "java/lang/Comparable"), (0, .class_ 366), (0, u "java/lang/constant/Constable"), (0, .class_ 368), (0, u "java/lang/constant/ConstantDesc"), (0, u "MIN_VALUE"), (1, u "MAX_VALUE"), (4, u "SIZE"), (0, u "I"), (1, u "BYTES"), (1, u "serialVersionUID")] 142

def k8c0 : Code := { maxStack := 5, maxLocals := 2, code := jdk_35_method_36_code, exceptionTable := #[], attributes := #[] }
def k8m0 : Method := { name := "hashCode", desc := "(J)I", sig := { parameters := [.long], returnType := some .int }, accessFlags := 9, code := some k8c0 }
/-- java/lang/Long -/
def k8 : Class := { plain "java/lang/Long" (some 4) with
  accessFlags := 49
  interfaces := #[5, 6, 7]
  cf := some (fileOf pool8 1 #[.nestMembers #[235]] #[{ accessFlags := 9, nameIndex := 279, descriptorIndex := 101, attributes := #[] }] 49 271 #[363, 365, 367] #[{ accessFlags := 25, nameIndex := 369, descriptorIndex := 276, attributes := #[] }, { accessFlags := 25, nameIndex := 371, descriptorIndex := 276, attributes := #[] }, { accessFlags := 25, nameIndex := 361, descriptorIndex := 362, attributes := #[] }, { accessFlags := 18, nameIndex := 275, descriptorIndex := 276, attributes := #[] }, { accessFlags := 25, nameIndex := 376, descriptorIndex := 377, attributes := #[] }, { accessFlags := 25, nameIndex := 379, descriptorIndex := 377, attributes := #[] }, { accessFlags := 26, nameIndex := 381, descriptorIndex := 276, attributes := #[] }])
  fields := #[{ name := "MIN_VALUE", type := .long, accessFlags := 25, slot := 0, constantValue := 0 }, { name := "MAX_VALUE", type := .long, accessFlags := 25, slot := 1, constantValue := 0 }, { name := "TYPE", type := (.object "java/lang/Class"), accessFlags := 25, slot := 2, constantValue := 0 }, { name := "value", type := .long, accessFlags := 18, slot := 0, constantValue := 0 }, { name := "SIZE", type := .int, accessFlags := 25, slot := 3, constantValue := 0 }, { name := "BYTES", type := .int, accessFlags := 25, slot := 4, constantValue := 0 }, { name := "serialVersionUID", type := .long, accessFlags := 26, slot := 5, constantValue := 0 }]
  methods := #[k8m0]
  instanceTypes := #[.long]
  staticTypes := #[.long, .long, (.object "java/lang/Class"), .int, .int, .long]
  resolved := Array.replicate 524 none
  statics := none }

def pool9 : Array CpInfo := pool [(2, .class_ 4), (1, u "java/lang/Object"), (0, u "<init>"), (0, u "()V"), (1, .class_ 10), (1, u "java/lang/System"), (0, u "allowSecurityManager"), (0, u "I"), (16, u "cons"), (0, u "Ljava/io/Console;"), (77, .class_ 110), (1, u "java/lang/System$CallersHolder"), (43, u "initialErrStream"), (0, u "Ljava/io/PrintStream;"), (19, u "security"), (0, u "Ljava/lang/SecurityManager;"), (31, .class_ 209), (0, u "java/lang/System$1"), (7, u "props"), (0, u "Ljava/util/Properties;"), (2, u "lineSeparator"), (0, u "Ljava/lang/String;"), (96, .class_ 321), (1, u "java/lang/System$LoggerFinder"), (5, .class_ 328), (0, u "java/lang/System$Logger"), (67, u "err"), (2, u "out"), (91, u "notSupportedJnuEncoding"), (15, u "in"), (17, u "initialIn"), (0, u "Ljava/io/InputStream;"), (35, u "bootLayer"), (0, u "Ljava/lang/ModuleLayer;"), (99, .class_ 664), (0, u "java/lang/System$2"), (9, u "NEVER"), (2, u "MAYBE"), (49, u "arraycopy"), (0, u "(Ljava/lang/Object;ILjava/lang/Object;II)V"), (72, .class_ 802), (0, u "java/lang/System$Logger$Level")] 31

def k9m0 : Method := { name := "<init>", desc := "()V", sig := { parameters := [], returnType := none }, accessFlags := 2, code := none }
def k9m1 : Method := { name := "arraycopy", desc := "(Ljava/lang/Object;ILjava/lang/Object;II)V", sig := { parameters := [(.object "java/lang/Object"), .int, (.object "java/lang/Object"), .int, .int], returnType := none }, accessFlags := 265, code := none }
/-- java/lang/System -/
def k9 : Class := { plain "java/lang/System" (some 0) with
  accessFlags := 49
  interfaces := #[]
  cf := some (fileOf pool9 8 #[.nestMembers #[319, 327, 801, 108, 663, 208]] #[{ accessFlags := 2, nameIndex := 5, descriptorIndex := 6, attributes := #[] }, { accessFlags := 265, nameIndex := 727, descriptorIndex := 728, attributes := #[] }] 49 2 #[] #[{ accessFlags := 25, nameIndex := 507, descriptorIndex := 526, attributes := #[] }, { accessFlags := 25, nameIndex := 399, descriptorIndex := 155, attributes := #[] }, { accessFlags := 25, nameIndex := 396, descriptorIndex := 155, attributes := #[] }, { accessFlags := 10, nameIndex := 525, descriptorIndex := 526, attributes := #[] }, { accessFlags := 26, nameIndex := 674, descriptorIndex := 12, attributes := #[] }, { accessFlags := 26, nameIndex := 677, descriptorIndex := 12, attributes := #[] }, { accessFlags := 10, nameIndex := 11, descriptorIndex := 12, attributes := #[] }, { accessFlags := 74, nameIndex := 175, descriptorIndex := 176, attributes := #[] }, { accessFlags := 10, nameIndex := 491, descriptorIndex := 222, attributes := #[] }, { accessFlags := 74, nameIndex := 29, descriptorIndex := 30, attributes := #[] }, { accessFlags := 74, nameIndex := 154, descriptorIndex := 155, attributes := #[] }, { accessFlags := 10, nameIndex := 217, descriptorIndex := 218, attributes := #[] }, { accessFlags := 10, nameIndex := 221, descriptorIndex := 222, attributes := #[] }, { accessFlags := 8, nameIndex := 562, descriptorIndex := 563, attributes := #[] }])
  fields := #[{ name := "in", type := (.object "java/io/InputStream"), accessFlags := 25, slot := 0, constantValue := 0 }, { name := "out", type := (.object "java/io/PrintStream"), accessFlags := 25, slot := 1, constantValue := 0 }, { name := "err", type := (.object "java/io/PrintStream"), accessFlags := 25, slot := 2, constantValue := 0 }, { name := "initialIn", type := (.object "java/io/InputStream"), accessFlags := 10, slot := 3, constantValue := 0 }, { name := "NEVER", type := .int, accessFlags := 26, slot := 4, constantValue := 0 }, { name := "MAYBE", type := .int, accessFlags := 26, slot := 5, constantValue := 0 }, { name := "allowSecurityManager", type := .int, accessFlags := 10, slot := 6, constantValue := 0 }, { name := "security", type := (.object "java/lang/SecurityManager"), accessFlags := 74, slot := 7, constantValue := 0 }, { name := "notSupportedJnuEncoding", type := (.object "java/lang/String"), accessFlags := 10, slot := 8, constantValue := 0 }, { name := "cons", type := (.object "java/io/Console"), accessFlags := 74, slot := 9, constantValue := 0 }, { name := "initialErrStream", type := (.object "java/io/PrintStream"), accessFlags := 74, slot := 10, constantValue := 0 }, { name := "props", type := (.object "java/util/Properties"), accessFlags := 10, slot := 11, constantValue := 0 }, { name := "lineSeparator", type := (.object "java/lang/String"), accessFlags := 10, slot := 12, constantValue := 0 }, { name := "bootLayer", type := (.object "java/lang/ModuleLayer"), accessFlags := 8, slot := 13, constantValue := 0 }]
  methods := #[k9m0, k9m1]
  instanceTypes := #[]
  staticTypes := #[(.object "java/io/InputStream"), (.object "java/io/PrintStream"), (.object "java/io/PrintStream"), (.object "java/io/InputStream"), .int, .int, .int, (.object "java/lang/SecurityManager"), (.object "java/lang/String"), (.object "java/io/Console"), (.object "java/io/PrintStream"), (.object "java/util/Properties"), (.object "java/lang/String"), (.object "java/lang/ModuleLayer")]
  resolved := Array.replicate 834 none
  statics := none }

def pool10 : Array CpInfo := pool [(1, u "java/lang/Cloneable"), (0, .class_ 1), (0, u "java/lang/Object"), (0, .class_ 3)] 3

/-- java/lang/Cloneable -/
def k10 : Class := { plain "java/lang/Cloneable" (some 0) with
  accessFlags := 1537
  interfaces := #[]
  cf := some (fileOf pool10 2 #[] #[] 1537 4 #[] #[])
  fields := #[]
  methods := #[]
  instanceTypes := #[]
  staticTypes := #[]
  resolved := Array.replicate 8 none
  statics := none }

/-- the primitive byte -/
def k11 : Class := { plain "byte" none with kind := .primitive 'B', accessFlags := 0x411 }
/-- [B -/
def k12 : Class := { plain "[B" (some 0) with kind := .array 11 .byte, interfaces := #[10, 3], accessFlags := 1041 }

/-- the primitive int -/
def k13 : Class := { plain "int" none with kind := .primitive 'I', accessFlags := 0x411 }
/-- [I -/
def k14 : Class := { plain "[I" (some 0) with kind := .array 13 .int, interfaces := #[10, 3], accessFlags := 1041 }

/-- the primitive long -/
def k15 : Class := { plain "long" none with kind := .primitive 'J', accessFlags := 0x411 }
/-- [J -/
def k16 : Class := { plain "[J" (some 0) with kind := .array 15 .long, interfaces := #[10, 3], accessFlags := 1041 }

def heap : Heap := #[]
def classes : Array Class := #[k0, k1, k2, k3, k4, k5, k6, k7, k8, k9, k10, k11, k12, k13, k14, k15, k16]
def interned : List (Array UInt16 × Addr) := []
def slotsUsed : Nat := 0
def theMethod : MethodId := ⟨1, 1⟩
def args0 : Array Value := #[.int 5, .long 5, .long 5, .long 5, .long 5, .int 5]
def aboutOver (below : List Frame) : State where
  vm := { classes := classes, interned := interned.toArray }
  heap := heap
  slotsUsed := slotsUsed
  threads := #[{ frames := .invoking theMethod args0 :: below }]
def below0 : List Frame := [.native { method := ⟨0, 0⟩, args := #[] }]
def about1 : State := aboutOver below0
def p0 : Program := .bare "" "" ""
def e0 : Env := launch0.env 0 0 0
theorem w_frames : about1.frames = Frame.invoking theMethod args0 :: below0 := rfl
set_option maxRecDepth 65536 in
theorem w_args : argsFit about1.vm theMethod args0 = true := by decide +kernel
set_option maxRecDepth 65536 in
theorem w_heap : heapFits about1 = true := by decide +kernel
set_option maxRecDepth 65536 in
theorem w_runnable : about1.curStatus? = some .runnable := by decide +kernel
set_option maxRecDepth 65536 in
theorem w_alone : about1.alone = true := by decide +kernel
set_option maxRecDepth 65536 in
theorem w_named : about1.methodNamed? x = some theMethod := by decide +kernel
set_option maxRecDepth 65536 in
theorem w_hears : about1.hears theMethod below0 = true := by decide +kernel
set_option maxRecDepth 65536 in
theorem w_ripe : about1.ripe theMethod args0 below0 = true := by decide +kernel
theorem w_running : about1.status = .running := rfl
set_option maxRecDepth 65536 in
theorem w_room : about1.hasRoom e0.platform room_1 = true :=
  launch0.hasRoom_least _ room_1 (by decide +kernel) (by decide +kernel) (by decide +kernel) (by decide +kernel) (by decide +kernel) (by decide +kernel)
theorem allAtoms_all (ts : List Jvm.Cond) (a : Array Jvm.Value) (st : Jvm.State) : (allAtoms ts).before a st = ts.all (fun c => c.before a st) := by
  induction ts with
  | nil => rfl
  | cons c t ih =>
    show (Jvm.Cond.and c (allAtoms t)).before a st = _
    rw [Jvm.Cond.before_and, ih, List.all_cons]
def words1 : List Jvm.Cond := Jvm.Cond.code x code maxLocals ret :: tables_1
/-- a 'code' word, met by the world's own term for the bytes: nothing is compared byte by byte -/
theorem code_word {y : MethodName} {bytes : ByteArray} {mx : Nat} {rt : Option FieldType} {a : Array Value} {s : State} {m : MethodId} {meth : Method} {c : Code} (h1 : s.methodNamed? y = some m) (h2 : s.vm.method? m = some meth) (h3 : meth.code = some c) (h4 : c.code = bytes)
    (h5 : (c.maxLocals == mx && c.exceptionTable.isEmpty && decide (c.maxStack ≤ mostOperands) && decide (meth.sig.returnType = rt) && !meth.locks && decide (parseMethodDescriptor y.desc = some meth.sig)) = true) : (Jvm.Cond.code y bytes mx rt).before a s = true := by
  simp only [Bool.and_eq_true, beq_iff_eq, Bool.not_eq_true', decide_eq_true_eq] at h5
  obtain ⟨⟨⟨⟨⟨g1, g2⟩, g3⟩, g4⟩, g5⟩, g6⟩ := h5
  simp [Cond.before, Cond.holds, Cond.value, h1, h2, h3, h4, g1, g2, g3, g4, g5, g6]
def isCode : Jvm.Cond → Bool
  | .code _ _ _ _ => true
  | _ => false
theorem all_split {L : List Jvm.Cond} {P : Jvm.Cond → Bool} (h1 : L.all (fun c => isCode c || P c) = true) (h2 : ∀ c ∈ L.filter isCode, P c = true) : L.all P = true := by
  refine List.all_eq_true.mpr fun c hc => ?_
  have h := List.all_eq_true.mp h1 c hc
  rcases Bool.eq_false_or_eq_true (isCode c) with hi | hi
  · exact h2 c (List.mem_filter.mpr ⟨hc, hi⟩)
  · simpa [hi] using h
set_option maxRecDepth 65536 in
theorem w_c0 : (Jvm.Cond.code x code maxLocals ret).before args0 about1 = true := code_word (m := ⟨1, 1⟩) (meth := k1m1) (c := k1c1) (by decide +kernel) rfl rfl rfl (by decide +kernel)
set_option maxRecDepth 65536 in
theorem w_c1 : (Jvm.Cond.code ({ cls := "com/example/grammar_game_solver/grammargamesolver/summary/NumberedSets", name := "<init>", desc := "(I)V" } : Jvm.MethodName) prog_63_method_1_code (2 : Nat) (Option.none : Option Jvm.ClassFile.FieldType)).before args0 about1 = true := code_word (m := ⟨2, 0⟩) (meth := k2m0) (c := k2c0) (by decide +kernel) rfl rfl rfl (by decide +kernel)
set_option maxRecDepth 65536 in
theorem w_c2 : (Jvm.Cond.code ({ cls := "java/lang/Object", name := "<init>", desc := "()V" } : Jvm.MethodName) object_method_1_code (1 : Nat) (Option.none : Option Jvm.ClassFile.FieldType)).before args0 about1 = true := code_word (m := ⟨0, 0⟩) (meth := k0m0) (c := k0c0) (by decide +kernel) rfl rfl rfl (by decide +kernel)
set_option maxRecDepth 65536 in
theorem w_c3 : (Jvm.Cond.code ({ cls := "com/example/grammar_game_solver/grammargamesolver/summary/NumberedSets", name := "numberOf", desc := "([J)I" } : Jvm.MethodName) prog_63_method_4_code (2 : Nat) (Option.some Jvm.ClassFile.FieldType.int)).before args0 about1 = true := code_word (m := ⟨2, 1⟩) (meth := k2m1) (c := k2c1) (by decide +kernel) rfl rfl rfl (by decide +kernel)
set_option maxRecDepth 65536 in
theorem w_c4 : (Jvm.Cond.code ({ cls := "com/example/grammar_game_solver/grammargamesolver/summary/NumberedSets", name := "numberOf", desc := "([JI)I" } : Jvm.MethodName) prog_63_method_6_code (7 : Nat) (Option.some Jvm.ClassFile.FieldType.int)).before args0 about1 = true := code_word (m := ⟨2, 2⟩) (meth := k2m2) (c := k2c2) (by decide +kernel) rfl rfl rfl (by decide +kernel)
set_option maxRecDepth 65536 in
theorem w_c5 : (Jvm.Cond.code ({ cls := "java/lang/Long", name := "hashCode", desc := "(J)I" } : Jvm.MethodName) jdk_35_method_36_code (2 : Nat) (Option.some Jvm.ClassFile.FieldType.int)).before args0 about1 = true := code_word (m := ⟨8, 0⟩) (meth := k8m0) (c := k8c0) (by decide +kernel) rfl rfl rfl (by decide +kernel)
set_option maxRecDepth 65536 in
theorem w_c6 : (Jvm.Cond.code ({ cls := "com/example/grammar_game_solver/grammargamesolver/summary/NumberedSets", name := "slotOf", desc := "(II)I" } : Jvm.MethodName) prog_63_method_12_code (3 : Nat) (Option.some Jvm.ClassFile.FieldType.int)).before args0 about1 = true := code_word (m := ⟨2, 5⟩) (meth := k2m5) (c := k2c5) (by decide +kernel) rfl rfl rfl (by decide +kernel)
set_option maxRecDepth 65536 in
theorem w_c7 : (Jvm.Cond.code ({ cls := "com/example/grammar_game_solver/grammargamesolver/summary/NumberedSets", name := "equalsAt", desc := "(I[JI)Z" } : Jvm.MethodName) prog_63_method_10_code (6 : Nat) (Option.some Jvm.ClassFile.FieldType.boolean)).before args0 about1 = true := code_word (m := ⟨2, 4⟩) (meth := k2m4) (c := k2c4) (by decide +kernel) rfl rfl rfl (by decide +kernel)
set_option maxRecDepth 65536 in
theorem w_c8 : (Jvm.Cond.code ({ cls := "com/example/grammar_game_solver/grammargamesolver/summary/NumberedSets", name := "contains", desc := "(II)Z" } : Jvm.MethodName) prog_63_method_8_code (3 : Nat) (Option.some Jvm.ClassFile.FieldType.boolean)).before args0 about1 = true := code_word (m := ⟨2, 3⟩) (meth := k2m3) (c := k2c3) (by decide +kernel) rfl rfl rfl (by decide +kernel)
set_option maxRecDepth 65536 in
theorem w_c9 : (Jvm.Cond.code ({ cls := "com/example/grammar_game_solver/grammargamesolver/summary/NumberedSetsContainsPinLaw", name := "holds", desc := "([JI)Z" } : Jvm.MethodName) method_3_code (4 : Nat) (Option.some Jvm.ClassFile.FieldType.boolean)).before args0 about1 = true := code_word (m := ⟨1, 2⟩) (meth := k1m2) (c := k1c2) (by decide +kernel) rfl rfl rfl (by decide +kernel)
def codes1 : List Jvm.Cond := [Jvm.Cond.code x code maxLocals ret, Jvm.Cond.code ({ cls := "com/example/grammar_game_solver/grammargamesolver/summary/NumberedSets", name := "<init>", desc := "(I)V" } : Jvm.MethodName) prog_63_method_1_code (2 : Nat) (Option.none : Option Jvm.ClassFile.FieldType), Jvm.Cond.code ({ cls := "java/lang/Object", name := "<init>", desc := "()V" } : Jvm.MethodName) object_method_1_code (1 : Nat) (Option.none : Option Jvm.ClassFile.FieldType), Jvm.Cond.code ({ cls := "com/example/grammar_game_solver/grammargamesolver/summary/NumberedSets", name := "numberOf", desc := "([J)I" } : Jvm.MethodName) prog_63_method_4_code (2 : Nat) (Option.some Jvm.ClassFile.FieldType.int), Jvm.Cond.code ({ cls := "com/example/grammar_game_solver/grammargamesolver/summary/NumberedSets", name := "numberOf", desc := "([JI)I" } : Jvm.MethodName) prog_63_method_6_code (7 : Nat) (Option.some Jvm.ClassFile.FieldType.int), Jvm.Cond.code ({ cls := "java/lang/Long", name := "hashCode", desc := "(J)I" } : Jvm.MethodName) jdk_35_method_36_code (2 : Nat) (Option.some Jvm.ClassFile.FieldType.int), Jvm.Cond.code ({ cls := "com/example/grammar_game_solver/grammargamesolver/summary/NumberedSets", name := "slotOf", desc := "(II)I" } : Jvm.MethodName) prog_63_method_12_code (3 : Nat) (Option.some Jvm.ClassFile.FieldType.int), Jvm.Cond.code ({ cls := "com/example/grammar_game_solver/grammargamesolver/summary/NumberedSets", name := "equalsAt", desc := "(I[JI)Z" } : Jvm.MethodName) prog_63_method_10_code (6 : Nat) (Option.some Jvm.ClassFile.FieldType.boolean), Jvm.Cond.code ({ cls := "com/example/grammar_game_solver/grammargamesolver/summary/NumberedSets", name := "contains", desc := "(II)Z" } : Jvm.MethodName) prog_63_method_8_code (3 : Nat) (Option.some Jvm.ClassFile.FieldType.boolean), Jvm.Cond.code ({ cls := "com/example/grammar_game_solver/grammargamesolver/summary/NumberedSetsContainsPinLaw", name := "holds", desc := "([JI)Z" } : Jvm.MethodName) method_3_code (4 : Nat) (Option.some Jvm.ClassFile.FieldType.boolean)]
set_option maxRecDepth 65536 in
theorem codes_eq : words1.filter isCode = codes1 := rfl
theorem w_codes : ∀ c ∈ words1.filter isCode, c.before args0 about1 = true := by
  rw [codes_eq]
  intro c hc
  simp only [codes1, List.mem_cons, List.not_mem_nil, or_false] at hc
  rcases hc with rfl | rfl | rfl | rfl | rfl | rfl | rfl | rfl | rfl | rfl
  · exact w_c0
  · exact w_c1
  · exact w_c2
  · exact w_c3
  · exact w_c4
  · exact w_c5
  · exact w_c6
  · exact w_c7
  · exact w_c8
  · exact w_c9
set_option maxRecDepth 65536 in
theorem w_t1 : (words1.take 24).all (fun c => isCode c || c.before args0 about1) = true := by decide +kernel
set_option maxRecDepth 65536 in
theorem w_t2 : ((words1.drop 24).take 24).all (fun c => isCode c || c.before args0 about1) = true := by decide +kernel
set_option maxRecDepth 65536 in
theorem w_t3 : ((words1.drop 24).drop 24).all (fun c => isCode c || c.before args0 about1) = true := by decide +kernel
theorem w_tables : (allAtoms (Jvm.Cond.code x code maxLocals ret :: tables_1)).before args0 about1 = true := by
  rw [allAtoms_all]
  show words1.all (fun c => c.before args0 about1) = true
  refine all_split ?_ w_codes
  rw [← List.take_append_drop 24 words1, List.all_append, w_t1, ← List.take_append_drop 24 (words1.drop 24), List.all_append, w_t2, w_t3]
  rfl
set_option maxRecDepth 65536 in
theorem w_case : (Jvm.Cond.and given_1 narrow_1).before args0 about1 = true := by decide +kernel
theorem w_applies : (headSpec (Jvm.Cond.code x code maxLocals ret :: tables_1) room_1).applies x e0.platform about1 = true :=
  (Spec.applies_iff w_frames).mpr ⟨w_running, w_runnable, w_alone, w_named, w_hears, w_ripe, w_room, w_tables⟩
theorem atStart : AtStart classFile x code maxLocals ret World_1 tables_1 room_1 Calls_1 rest_1 Pre_1 launch0 p0 e0 about1 theMethod args0 below0 :=
  ⟨lists_1, trivial, launch0.admits_env _ _ _, launch0.least_env, fairChoices_fair.cas, fairChoices_fair.clock, w_frames, w_args, w_heap, w_applies, trivial, trivial, w_case⟩
end start1
theorem witness_1 : WitnessClaimed_1 := ⟨start1.p0, start1.e0, start1.about1, start1.theMethod, start1.args0, start1.below0, start1.atStart⟩
end Jvm.Pilot.@@N@@
