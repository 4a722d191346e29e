import JvmDerived
import JvmDerived.Pilot.@@N@@Statement
import JvmDerived.Pilot.@@N@@Code
set_option linter.unusedVariables false
set_option linter.unusedSimpArgs false

namespace Jvm.RoadKit
open Sem ClassFile Op Lib Jvm.Stand Jvm.Free Jvm.LawKit
section New
variable {p : Program} {l : Launch} {e : Env} {R : Room} {s : State} {m : MethodId} {args : Array Value} {below : List Frame} {meth : Method} {c : Code} {T : State} {locs : List Loc} {cells slots : Nat}
theorem retI (X : Stand p l e R s m args below meth c T locs cells slots) (hx : p.tables.exec = Jvm.exec) {pc : Nat} {Ls : Array Slot} {z : Int32} {rest : List Value} (hret : meth.sig.returnType = some .int) (hd : decode c.code pc = .ok (.ireturn, 1)) {fs : List Frame}
    (hl : ∀ (f : JFrame) (acts : List Action), f.method = m → f.locked = none → f.entered = [] → (doReturn e (T.setTop f) acts (some (.int z))).1 = T.setFrames fs) : Steps p.tables e below (T.setTop (mkF m pc Ls (.int z :: rest))) (T.setFrames fs) := by
  have hm' : T.vm.method? m = some meth := X.method'
  have hn : narrow .int (.int z) = .int z := rfl
  show Steps p.tables e below (T.setTop { method := m, pc := pc, locals := Ls, stack := _ :: rest, locked := none }) _
  jvm_step X.here [X.here.top, hx, hd, hm', hret, hn]
  first | (intro acts; rw [hl _ acts rfl rfl rfl]) | rw [hl _ _ rfl rfl rfl]
  exact Steps.refl _
end New
end Jvm.RoadKit
namespace Jvm.Pilot.@@N@@
open Jvm Jvm.ClassFile Sem Op Lib Jvm.Free Jvm.Stand Jvm.LawKit Jvm.RoadKit Bundle Jvm.Pilot.@@N@@.Jvm.D
abbrev c_0 : String := "com/example/grammar_game_solver/grammargamesolver/summary/NumberedSets"
abbrev y_0 : MethodName := ⟨"java/lang/Long", "hashCode", "(J)I"⟩
abbrev y_1 : MethodName := ⟨"com/example/grammar_game_solver/grammargamesolver/summary/NumberedSets", "slotOf", "(II)I"⟩
abbrev y_2 : MethodName := ⟨"com/example/grammar_game_solver/grammargamesolver/summary/NumberedSets", "<init>", "(I)V"⟩
abbrev y_3 : MethodName := ⟨"com/example/grammar_game_solver/grammargamesolver/summary/NumberedSets", "numberOf", "([JI)I"⟩
abbrev y_4 : MethodName := ⟨"com/example/grammar_game_solver/grammargamesolver/summary/NumberedSets", "numberOf", "([J)I"⟩
abbrev y_5 : MethodName := ⟨"com/example/grammar_game_solver/grammargamesolver/summary/NumberedSets", "equalsAt", "(I[JI)Z"⟩
abbrev y_6 : MethodName := ⟨"com/example/grammar_game_solver/grammargamesolver/summary/NumberedSets", "word", "(II)J"⟩
abbrev own_zl (n : Nat) : List Value := List.replicate n (.long (0 : Int64))
abbrev own_zi (n : Nat) : List Value := List.replicate n (.int (0 : Int32))
abbrev own_zr (n : Nat) : List Value := List.replicate n .null
abbrev vi (x : Int32) : Slot := .val (.int x)
abbrev vj (x : Int64) : Slot := .val (.long x)
abbrev vr (x : Addr) : Slot := .val (.ref x)
section Steps
variable {p : Program} {l : Launch} {e : Env} {R : Room} {s : State} {m : MethodId} {args : Array Value} {below : List Frame} {meth : Method} {c : Code} {T : State} {locs : List Loc} {cells slots : Nat} {pc pc' : Nat} {Ls L' : Array Slot} {S : List Value} {t : State} {Z : State} {h : Heap} {a : Addr} {cl : Cell}
abbrev Go (p : Program) (e : Env) (below : List Frame) (T0 : State) (g0 : JFrame) (T : State) (g : JFrame) : Prop := ∀ t, Steps p.tables e below (T.setTop g) t → Steps p.tables e below (T0.setTop g0) t
theorem own_w {Z : State} {a0 : Array Value} (hw : ∀ d ∈ tables_1, d.before a0 Z = true) (k : Nat) {d : Jvm.Cond} (h : tables_1[k]? = some d) : d.before a0 Z = true := hw _ (List.mem_of_getElem? h)
theorem o_iloadN (X : Stand p l e R s m args below meth c T locs cells slots) (hx : p.tables.exec = Jvm.exec) {i : Fin 4} {v : Int32} (hd : decode c.code pc = .ok (.iload_n i, 1)) (hl : Ls[i.val]? = some (.val (.int v))) (k : Steps p.tables e below (T.setTop (mkF m (pc + 1) Ls (.int v :: S))) t) : Steps p.tables e below (T.setTop (mkF m pc Ls (S))) t := XS.iloadN X.here hx rfl hd hl k
theorem o_iload (X : Stand p l e R s m args below meth c T locs cells slots) (hx : p.tables.exec = Jvm.exec) {i : Nat} {v : Int32} (hd : decode c.code pc = .ok (.iload i, 2)) (hl : Ls[i]? = some (.val (.int v))) (k : Steps p.tables e below (T.setTop (mkF m (pc + 2) Ls (.int v :: S))) t) : Steps p.tables e below (T.setTop (mkF m pc Ls (S))) t := XS.iload X.here hx rfl hd hl k
theorem o_lloadN (X : Stand p l e R s m args below meth c T locs cells slots) (hx : p.tables.exec = Jvm.exec) {i : Fin 4} {v : Int64} (hd : decode c.code pc = .ok (.lload_n i, 1)) (hl : Ls[i.val]? = some (.val (.long v))) (k : Steps p.tables e below (T.setTop (mkF m (pc + 1) Ls (.long v :: S))) t) : Steps p.tables e below (T.setTop (mkF m pc Ls (S))) t := XS.lloadN X.here hx rfl hd hl k
theorem o_lload (X : Stand p l e R s m args below meth c T locs cells slots) (hx : p.tables.exec = Jvm.exec) {i : Nat} {v : Int64} (hd : decode c.code pc = .ok (.lload i, 2)) (hl : Ls[i]? = some (.val (.long v))) (k : Steps p.tables e below (T.setTop (mkF m (pc + 2) Ls (.long v :: S))) t) : Steps p.tables e below (T.setTop (mkF m pc Ls (S))) t := XS.lload X.here hx rfl hd hl k
theorem o_aloadN (X : Stand p l e R s m args below meth c T locs cells slots) (hx : p.tables.exec = Jvm.exec) {i : Fin 4} {v : Value} (hd : decode c.code pc = .ok (.aload_n i, 1)) (hl : Ls[i.val]? = some (.val v)) (hv : v.isRef = true) (k : Steps p.tables e below (T.setTop (mkF m (pc + 1) Ls (v :: S))) t) : Steps p.tables e below (T.setTop (mkF m pc Ls (S))) t := XS.aloadN X.here hx rfl hd hl hv k
theorem o_aload (X : Stand p l e R s m args below meth c T locs cells slots) (hx : p.tables.exec = Jvm.exec) {i : Nat} {v : Value} (hd : decode c.code pc = .ok (.aload i, 2)) (hl : Ls[i]? = some (.val v)) (hv : v.isRef = true) (k : Steps p.tables e below (T.setTop (mkF m (pc + 2) Ls (v :: S))) t) : Steps p.tables e below (T.setTop (mkF m pc Ls (S))) t := XS.aload X.here hx rfl hd hl hv k
theorem o_istoreN (X : Stand p l e R s m args below meth c T locs cells slots) (hx : p.tables.exec = Jvm.exec) {i : Fin 4} {v : Int32} (hd : decode c.code pc = .ok (.istore_n i, 1)) (hl : storeLocals Ls i.val (.int v) = some L') (k : Steps p.tables e below (T.setTop (mkF m (pc + 1) L' (S))) t) : Steps p.tables e below (T.setTop (mkF m pc Ls (.int v :: S))) t := XS.istoreN X.here hx rfl hd rfl hl k
theorem o_istore (X : Stand p l e R s m args below meth c T locs cells slots) (hx : p.tables.exec = Jvm.exec) {i : Nat} {v : Int32} (hd : decode c.code pc = .ok (.istore i, 2)) (hl : storeLocals Ls i (.int v) = some L') (k : Steps p.tables e below (T.setTop (mkF m (pc + 2) L' (S))) t) : Steps p.tables e below (T.setTop (mkF m pc Ls (.int v :: S))) t := XS.istore X.here hx rfl hd rfl hl k
theorem o_lstore (X : Stand p l e R s m args below meth c T locs cells slots) (hx : p.tables.exec = Jvm.exec) {i : Nat} {v : Int64} (hd : decode c.code pc = .ok (.lstore i, 2)) (hl : storeLocals Ls i (.long v) = some L') (k : Steps p.tables e below (T.setTop (mkF m (pc + 2) L' (S))) t) : Steps p.tables e below (T.setTop (mkF m pc Ls (.long v :: S))) t := XS.lstore X.here hx rfl hd rfl hl k
theorem o_astore (X : Stand p l e R s m args below meth c T locs cells slots) (hx : p.tables.exec = Jvm.exec) {i : Nat} {v : Value} (hd : decode c.code pc = .ok (.astore i, 2)) (hv : v.isRef = true) (hl : storeLocals Ls i v = some L') (k : Steps p.tables e below (T.setTop (mkF m (pc + 2) L' (S))) t) : Steps p.tables e below (T.setTop (mkF m pc Ls (v :: S))) t := XS.astore X.here hx rfl hd rfl hv hl k
theorem o_iconst (X : Stand p l e R s m args below meth c T locs cells slots) (hx : p.tables.exec = Jvm.exec) {i : Int} {v : Int32} (hd : decode c.code pc = .ok (.iconst i, 1)) (hv : v = Int32.ofInt i) (k : Steps p.tables e below (T.setTop (mkF m (pc + 1) Ls (.int v :: S))) t) : Steps p.tables e below (T.setTop (mkF m pc Ls (S))) t := XS.iconst X.here hx rfl hd (hv ▸ k)
theorem o_bipush (X : Stand p l e R s m args below meth c T locs cells slots) (hx : p.tables.exec = Jvm.exec) {i : Int} {v : Int32} (hd : decode c.code pc = .ok (.bipush i, 2)) (hv : v = (Int8.ofInt i).toInt32) (k : Steps p.tables e below (T.setTop (mkF m (pc + 2) Ls (.int v :: S))) t) : Steps p.tables e below (T.setTop (mkF m pc Ls (S))) t := XS.bipush X.here hx rfl hd (hv ▸ k)
theorem o_ldc (X : Stand p l e R s m args below meth c T locs cells slots) (hx : p.tables.exec = Jvm.exec) {own : String} {i : Nat} {v : Int32} (ho : s.vm.findClass own = some m.cls) (w : (Cond.constant own i v).before args s = true) (hd : decode c.code pc = .ok (.ldc i, 2))  (k : Steps p.tables e below (T.setTop (mkF m (pc + 2) Ls (.int v :: S))) t) : Steps p.tables e below (T.setTop (mkF m pc Ls (S))) t := X.ldcInt hx ho w (g := mkF m pc Ls S) rfl hd _ k
theorem o_iadd (X : Stand p l e R s m args below meth c T locs cells slots) (hx : p.tables.exec = Jvm.exec) {x y : Int32} (hd : decode c.code pc = .ok (.iadd, 1))  (k : Steps p.tables e below (T.setTop (mkF m (pc + 1) Ls (.int (x + y) :: S))) t) : Steps p.tables e below (T.setTop (mkF m pc Ls (.int y :: .int x :: S))) t := XS.iadd X.here hx rfl hd rfl k
theorem o_iaddE (X : Stand p l e R s m args below meth c T locs cells slots) (hx : p.tables.exec = Jvm.exec) {x y v : Int32} (hd : decode c.code pc = .ok (.iadd, 1)) (hv : v = x + y) (k : Steps p.tables e below (T.setTop (mkF m (pc + 1) Ls (.int v :: S))) t) : Steps p.tables e below (T.setTop (mkF m pc Ls (.int y :: .int x :: S))) t := XS.iadd X.here hx rfl hd rfl (hv ▸ k)
theorem o_isubE (X : Stand p l e R s m args below meth c T locs cells slots) (hx : p.tables.exec = Jvm.exec) {x y v : Int32} (hd : decode c.code pc = .ok (.isub, 1)) (hv : v = x - y) (k : Steps p.tables e below (T.setTop (mkF m (pc + 1) Ls (.int v :: S))) t) : Steps p.tables e below (T.setTop (mkF m pc Ls (.int y :: .int x :: S))) t := XS.isub X.here hx rfl hd rfl (hv ▸ k)
theorem o_imul (X : Stand p l e R s m args below meth c T locs cells slots) (hx : p.tables.exec = Jvm.exec) {x y : Int32} (hd : decode c.code pc = .ok (.imul, 1))  (k : Steps p.tables e below (T.setTop (mkF m (pc + 1) Ls (.int (x * y) :: S))) t) : Steps p.tables e below (T.setTop (mkF m pc Ls (.int y :: .int x :: S))) t := XS.imul X.here hx rfl hd rfl k
theorem o_imulE (X : Stand p l e R s m args below meth c T locs cells slots) (hx : p.tables.exec = Jvm.exec) {x y v : Int32} (hd : decode c.code pc = .ok (.imul, 1)) (hv : v = x * y) (k : Steps p.tables e below (T.setTop (mkF m (pc + 1) Ls (.int v :: S))) t) : Steps p.tables e below (T.setTop (mkF m pc Ls (.int y :: .int x :: S))) t := XS.imul X.here hx rfl hd rfl (hv ▸ k)
theorem o_iand (X : Stand p l e R s m args below meth c T locs cells slots) (hx : p.tables.exec = Jvm.exec) {x y : Int32} (hd : decode c.code pc = .ok (.iand, 1))  (k : Steps p.tables e below (T.setTop (mkF m (pc + 1) Ls (.int (x &&& y) :: S))) t) : Steps p.tables e below (T.setTop (mkF m pc Ls (.int y :: .int x :: S))) t := XS.iand X.here hx rfl hd rfl k
theorem o_ixor (X : Stand p l e R s m args below meth c T locs cells slots) (hx : p.tables.exec = Jvm.exec) {x y : Int32} (hd : decode c.code pc = .ok (.ixor, 1))  (k : Steps p.tables e below (T.setTop (mkF m (pc + 1) Ls (.int (x ^^^ y) :: S))) t) : Steps p.tables e below (T.setTop (mkF m pc Ls (.int y :: .int x :: S))) t := XS.ixor X.here hx rfl hd rfl k
theorem o_lxor (X : Stand p l e R s m args below meth c T locs cells slots) (hx : p.tables.exec = Jvm.exec) {x y : Int64} (hd : decode c.code pc = .ok (.lxor, 1))  (k : Steps p.tables e below (T.setTop (mkF m (pc + 1) Ls (.long (x ^^^ y) :: S))) t) : Steps p.tables e below (T.setTop (mkF m pc Ls (.long y :: .long x :: S))) t := XS.lxor X.here hx rfl hd rfl k
theorem o_l2i (X : Stand p l e R s m args below meth c T locs cells slots) (hx : p.tables.exec = Jvm.exec) {x : Int64} (hd : decode c.code pc = .ok (.l2i, 1))  (k : Steps p.tables e below (T.setTop (mkF m (pc + 1) Ls (.int (x.toInt32) :: S))) t) : Steps p.tables e below (T.setTop (mkF m pc Ls (.long x :: S))) t := XS.l2i X.here hx rfl hd rfl k
theorem o_iushr (X : Stand p l e R s m args below meth c T locs cells slots) (hx : p.tables.exec = Jvm.exec) {x : Int32} {y : Int32} (hd : decode c.code pc = .ok (.iushr, 1))  (k : Steps p.tables e below (T.setTop (mkF m (pc + 1) Ls (.int ((x.toUInt32 >>> (y &&& 31).toUInt32).toInt32) :: S))) t) : Steps p.tables e below (T.setTop (mkF m pc Ls (.int y :: .int x :: S))) t := XS.iushr X.here hx rfl hd rfl k
theorem o_lushr (X : Stand p l e R s m args below meth c T locs cells slots) (hx : p.tables.exec = Jvm.exec) {x : Int64} {y : Int32} (hd : decode c.code pc = .ok (.lushr, 1))  (k : Steps p.tables e below (T.setTop (mkF m (pc + 1) Ls (.long ((x.toUInt64 >>> (y &&& 0x3f).toInt64.toUInt64).toInt64) :: S))) t) : Steps p.tables e below (T.setTop (mkF m pc Ls (.int y :: .long x :: S))) t := XS.lushr X.here hx rfl hd rfl k
theorem o_lcmp (X : Stand p l e R s m args below meth c T locs cells slots) (hx : p.tables.exec = Jvm.exec) {x y : Int64} (hd : decode c.code pc = .ok (.lcmp, 1))  (k : Steps p.tables e below (T.setTop (mkF m (pc + 1) Ls (.int (lcmpW x y) :: S))) t) : Steps p.tables e below (T.setTop (mkF m pc Ls (.long y :: .long x :: S))) t := XS.lcmp X.here hx rfl hd rfl k
theorem o_iinc (X : Stand p l e R s m args below meth c T locs cells slots) (hx : p.tables.exec = Jvm.exec) {i : Nat} {cst : Int} {x : Int32} (hd : decode c.code pc = .ok (.iinc i cst, 3)) (hl : Ls[i]? = some (.val (.int x))) (hl' : storeLocals Ls i (.int (x + Int32.ofInt cst)) = some L') (k : Steps p.tables e below (T.setTop (mkF m (pc + 3) L' (S))) t) : Steps p.tables e below (T.setTop (mkF m pc Ls (S))) t := XS.iinc X.here hx rfl hd hl hl' k
theorem o_dup (X : Stand p l e R s m args below meth c T locs cells slots) (hx : p.tables.exec = Jvm.exec) {x : Value} (hd : decode c.code pc = .ok (.dup, 1)) (hc : x.category = 1) (k : Steps p.tables e below (T.setTop (mkF m (pc + 1) Ls (x :: x :: S))) t) : Steps p.tables e below (T.setTop (mkF m pc Ls (x :: S))) t := XS.dup X.here hx rfl hd rfl hc k
theorem o_dupX1 (X : Stand p l e R s m args below meth c T locs cells slots) (hx : p.tables.exec = Jvm.exec) {x y : Value} (hd : decode c.code pc = .ok (.dup_x1, 1)) (hc : x.category = 1) (hc' : y.category = 1) (k : Steps p.tables e below (T.setTop (mkF m (pc + 1) Ls (x :: y :: x :: S))) t) : Steps p.tables e below (T.setTop (mkF m pc Ls (x :: y :: S))) t := XS.dupX1 X.here hx rfl hd rfl hc hc' k
theorem o_goto (X : Stand p l e R s m args below meth c T locs cells slots) (hx : p.tables.exec = Jvm.exec) {o : Int} (hd : decode c.code pc = .ok (.goto o, 3)) (hp : ((pc : Int) + o).toNat = pc') (ho : 0 ≤ (pc : Int) + o) (k : Steps p.tables e below (T.setTop (mkF m (pc') Ls (S))) t) : Steps p.tables e below (T.setTop (mkF m pc Ls (S))) t := XS.goto X.here hx rfl rfl hd ho hp k
theorem o_ifYes (X : Stand p l e R s m args below meth c T locs cells slots) (hx : p.tables.exec = Jvm.exec) {cd : ClassFile.Cond} {x : Int32} {o : Int} (hd : decode c.code pc = .ok (.ifCond cd o, 3)) (hp : ((pc : Int) + o).toNat = pc') (ho : 0 ≤ (pc : Int) + o) (hc : ifCond.holds cd x = true) (k : Steps p.tables e below (T.setTop (mkF m (pc') Ls (S))) t) : Steps p.tables e below (T.setTop (mkF m pc Ls (.int x :: S))) t := XS.ifYes X.here hx rfl rfl hd rfl hc ho hp k
theorem o_ifNo (X : Stand p l e R s m args below meth c T locs cells slots) (hx : p.tables.exec = Jvm.exec) {cd : ClassFile.Cond} {x : Int32} {o : Int} (hd : decode c.code pc = .ok (.ifCond cd o, 3)) (hc : ifCond.holds cd x = false) (k : Steps p.tables e below (T.setTop (mkF m (pc + 3) Ls (S))) t) : Steps p.tables e below (T.setTop (mkF m pc Ls (.int x :: S))) t := XS.ifNo X.here hx rfl hd rfl hc k
theorem o_icmpYes (X : Stand p l e R s m args below meth c T locs cells slots) (hx : p.tables.exec = Jvm.exec) {cd : ClassFile.Cond} {x y : Int32} {o : Int} (hd : decode c.code pc = .ok (.if_icmp cd o, 3)) (hp : ((pc : Int) + o).toNat = pc') (ho : 0 ≤ (pc : Int) + o) (hc : if_icmp.holds cd x y = true) (k : Steps p.tables e below (T.setTop (mkF m (pc') Ls (S))) t) : Steps p.tables e below (T.setTop (mkF m pc Ls (.int y :: .int x :: S))) t := XS.icmpYes X.here hx rfl rfl hd rfl hc ho hp k
theorem o_icmpNo (X : Stand p l e R s m args below meth c T locs cells slots) (hx : p.tables.exec = Jvm.exec) {cd : ClassFile.Cond} {x y : Int32} {o : Int} (hd : decode c.code pc = .ok (.if_icmp cd o, 3)) (hc : if_icmp.holds cd x y = false) (k : Steps p.tables e below (T.setTop (mkF m (pc + 3) Ls (S))) t) : Steps p.tables e below (T.setTop (mkF m pc Ls (.int y :: .int x :: S))) t := XS.icmpNo X.here hx rfl hd rfl hc k
theorem o_len (X : Stand p l e R s m args below meth c T locs cells slots) (hx : p.tables.exec = Jvm.exec) (hZ : Z.Warmed39 s.vm) (eT : T.heap = h) {ty : FieldType} {z : Int32} (A : Arr Z h a cl ty) (Sz : cl.slots.size = z.toNatClampNeg) (Nn : ¬ z < 0) (hd : decode c.code pc = .ok (.arraylength, 1))  (k : Steps p.tables e below (T.setTop (mkF m (pc + 1) Ls (.int z :: S))) t) : Steps p.tables e below (T.setTop (mkF m pc Ls (.ref a :: S))) t := X.arraylength hx (by rw [eT]; exact A.1) (State.isArrayOf_alike hZ.alike A.2.1) (g := mkF m pc Ls (.ref a :: S)) rfl rfl hd _ (by rw [len_of Sz Nn]; exact k)
theorem o_iaload (X : Stand p l e R s m args below meth c T locs cells slots) (hx : p.tables.exec = Jvm.exec) (hZ : Z.Warmed39 s.vm) (eT : T.heap = h) {j : Int32} {v : Int32} (A : Arr Z h a cl .int) (hin : ¬ (j < 0 ∨ cl.slots.size ≤ j.toNatClampNeg)) (hat : cl.slots[j.toNatClampNeg]? = some (.int v)) (hd : decode c.code pc = .ok (.iaload, 1))  (k : Steps p.tables e below (T.setTop (mkF m (pc + 1) Ls (.int v :: S))) t) : Steps p.tables e below (T.setTop (mkF m pc Ls (.int j :: .ref a :: S))) t := X.iaload hx (j := j) (v := .int v) (by rw [eT]; exact A.1) (State.isArrayOf_alike hZ.alike A.2.1) A.2.2 hin hat (g := mkF m pc Ls (.int j :: .ref a :: S)) rfl rfl hd _ k
theorem o_laload (X : Stand p l e R s m args below meth c T locs cells slots) (hx : p.tables.exec = Jvm.exec) (hZ : Z.Warmed39 s.vm) (eT : T.heap = h) {j : Int32} {v : Int64} (A : Arr Z h a cl .long) (hin : ¬ (j < 0 ∨ cl.slots.size ≤ j.toNatClampNeg)) (hat : cl.slots[j.toNatClampNeg]? = some (.long v)) (hd : decode c.code pc = .ok (.laload, 1))  (k : Steps p.tables e below (T.setTop (mkF m (pc + 1) Ls (.long v :: S))) t) : Steps p.tables e below (T.setTop (mkF m pc Ls (.int j :: .ref a :: S))) t := X.laload hx (j := j) (v := .long v) (by rw [eT]; exact A.1) (State.isArrayOf_alike hZ.alike A.2.1) A.2.2 hin hat (g := mkF m pc Ls (.int j :: .ref a :: S)) rfl rfl hd _ k
end Steps
theorem own_nar_byte (x : Int32) : nar .byte x.toInt8.toInt32 = x.toInt8.toInt32 := by
  show x.toInt8.toInt32.toInt8.toInt32 = _
  rw [Int8.toInt8_toInt32]
theorem own_nar_short (x : Int32) : nar .short x.toInt16.toInt32 = x.toInt16.toInt32 := by
  show x.toInt16.toInt32.toInt16.toInt32 = _
  rw [Int16.toInt16_toInt32]
theorem own_nar_char (x : Int32) : nar .char x.toUInt32.toUInt16.toUInt32.toInt32 = x.toUInt32.toUInt16.toUInt32.toInt32 := by
  have h := c_i2c x
  have h2 := c_i2c (x.toUInt32.toUInt16.toUInt32.toInt32)
  show (x.toUInt32.toUInt16.toUInt32.toInt32).toUInt32.toUInt16.toUInt32.toInt32 = _
  apply Int32.toInt_inj.mp
  omega

theorem own_selp {s : State} {args : Array Value} {y : MethodName} {n : Nat} (hins : (Cond.instantiable y.cls n).before args s = true) (hpriv : (Cond.privateMethod y).before args s = true) (hinst : (Cond.instanceMethod y).before args s = true) (hy : y.cls ≠ "java/lang/invoke/MethodHandle" ∧ y.cls ≠ "java/lang/invoke/VarHandle") : (Cond.selects y.cls y y).before args s = true := by
  obtain ⟨c, k, hc, hk, -, hniab, -, -⟩ := Cond.instantiable_spec hins
  exact selects_self_of_private hc hk (Bool.or_eq_false_iff.mp hniab).1 (Cond.privateMethod_at hpriv) hinst hy

theorem d5_0 : decode jdk_35_method_36_code 0 = .ok (.lload_n 0, 1) := by decide +kernel
theorem d5_1 : decode jdk_35_method_36_code 1 = .ok (.lload_n 0, 1) := by decide +kernel
theorem d5_2 : decode jdk_35_method_36_code 2 = .ok (.bipush 32, 2) := by decide +kernel
theorem d5_4 : decode jdk_35_method_36_code 4 = .ok (.lushr, 1) := by decide +kernel
theorem d5_5 : decode jdk_35_method_36_code 5 = .ok (.lxor, 1) := by decide +kernel
theorem d5_6 : decode jdk_35_method_36_code 6 = .ok (.l2i, 1) := by decide +kernel
theorem d5_7 : decode jdk_35_method_36_code 7 = .ok (.ireturn, 1) := by decide +kernel
theorem pn_5 : plainName "java/lang/Long" = true := by first | (simp [plainName, overriddenIn]; done) | decide +kernel
theorem ef_5 (m : MethodId) (x0 : Int64) : entryFrame m #[(.long x0)] 2 = mkF m 0 #[vj x0, .second] [] := by first | (simp [entryFrame, mkF, argsToLocals, Value.category]; done) | rfl
def f5 (q1 : Int64) : Int32 := ((q1 ^^^ ((q1.toUInt64 >>> ((32 : Int32) &&& 0x3f).toInt64.toUInt64).toInt64)).toInt32)
def Q5 (Z : State) (q1 : Int64) (h0 : Heap) (n0 : Nat) (v : Option Value) (h : Heap) (L : List Loc) : Prop := v = some (.int (f5 q1)) ∧ Fr n0 L ∧ h = h0
set_option maxRecDepth 65536 in
set_option maxHeartbeats 40000000 in
theorem rm5 (l : Launch) (Z : State) (a0 : Array Value) (hw : ∀ d ∈ tables_1, d.before a0 Z = true) (ws : List Jvm.Cond) (q1 : Int64) (h0 : Heap) (n0 : Nat) (Z0 : n0 ≤ h0.size) :
    MetFree l y_0 (head1 (Jvm.Cond.code y_0 jdk_35_method_36_code 2 (some .int) :: ws) ({ frames := 0, cells := 0, slots := 0, locals := 0 } : Room)) (fun a U => a = #[(.long q1)] ∧ Z.Warmed39 U.vm ∧ U.heap = h0) (fun _ _ _ _ _ => True) (fun _ U o U' => ∃ v L, o = .returned v ∧ Q5 Z q1 h0 n0 v U'.heap L ∧ FrameEnd U o U' L ({ frames := 0, cells := 0, slots := 0, locals := 0 } : Room).cells ({ frames := 0, cells := 0, slots := 0, locals := 0 } : Room).slots) := by
  refine MetFree.of_bodySF (plainFor_of_name pn_5) hisR ?_
  intro p e s m args below meth c s₁ Bd hml0 hP hK
  obtain ⟨rfl, hZ, hh⟩ := hP
  have hx := Bd.exec
  have hby := Bd.bytes
  have hml : c.maxLocals = 2 := hml0
  have hown : s.vm.findClass "java/lang/Long" = some m.cls := findClass_of_methodNamed Bd.named
  have hnm := (name_of_methodNamed Bd.named Bd.method).1
  have X0 : Stand p l e ({ frames := 0, cells := 0, slots := 0, locals := 0 } : Room) s m #[(.long q1)] below meth c s₁ [] 0 0 := Stand.of_body Bd
  have e0 : s₁.heap = h0 := by rw [← hh, Bd.state]; rfl
  have N0 := Fr.nil n0
  obtain ⟨F0, hF0⟩ : ∃ F : JFrame, F = entryFrame m #[(.long q1)] 2 := ⟨_, rfl⟩
  have pre0 : ∀ t, Steps p.tables e below (s₁.setTop F0) t → Steps p.tables e below (s₁.setTop (entryFrame m #[(.long q1)] 2)) t := fun t k => hF0 ▸ k
  have go0 : Go p e below s₁ F0 s₁ (mkF m 0 #[vj q1, .second] []) := fun t k => castTop (hF0.trans (ef_5 m q1)) k
  have go1 : Go p e below s₁ F0 s₁ (mkF m 7 #[vj q1, .second] [(.int ((q1 ^^^ ((q1.toUInt64 >>> ((32 : Int32) &&& 0x3f).toInt64.toUInt64).toInt64)).toInt32))]) := by
    intro t_ k_
    refine go0 t_ ?_
    refine o_lloadN X0 hx (hb hby d5_0) rfl ?_
    refine o_lloadN X0 hx (hb hby d5_1) rfl ?_
    refine o_bipush X0 hx (hb hby d5_2) (v := 32) rfl ?_
    refine o_lushr X0 hx (hb hby d5_4) ?_
    refine o_lxor X0 hx (hb hby d5_5) ?_
    refine o_l2i X0 hx (hb hby d5_6) ?_
    exact k_
  obtain ⟨fs, hr, hrun, hended, hW, hsame⟩ := X0.leave (v := some (.int ((q1 ^^^ ((q1.toUInt64 >>> ((32 : Int32) &&& 0x3f).toInt64.toUInt64).toInt64)).toInt32))) (fun h => by rw [Bd.returns] at h; cases h)
  refine ⟨_, _, pre0 _ (go1 _ ?_), hrun, hended, _, _, rfl, ?_, ⟨_, rfl⟩, hW, hsame.mono (by decide) (by decide)⟩
  · skip
    exact retI X0 hx Bd.returns (hb hby d5_7) hr
  · show Q5 Z q1 h0 n0 _ s₁.heap _
    rw [e0]
    exact ⟨(congrArg (fun z => some (Value.int z)) (show ((q1 ^^^ ((q1.toUInt64 >>> ((32 : Int32) &&& 0x3f).toInt64.toUInt64).toInt64)).toInt32) = f5 q1 from by unfold f5; rfl)), N0, rfl⟩

theorem d6_0 : decode prog_63_method_12_code 0 = .ok (.iload_n 0, 1) := by decide +kernel
theorem d6_1 : decode prog_63_method_12_code 1 = .ok (.ldc 63, 2) := by decide +kernel
theorem d6_3 : decode prog_63_method_12_code 3 = .ok (.imul, 1) := by decide +kernel
theorem d6_4 : decode prog_63_method_12_code 4 = .ok (.istore_n 2, 1) := by decide +kernel
theorem d6_5 : decode prog_63_method_12_code 5 = .ok (.iload_n 2, 1) := by decide +kernel
theorem d6_6 : decode prog_63_method_12_code 6 = .ok (.iload_n 2, 1) := by decide +kernel
theorem d6_7 : decode prog_63_method_12_code 7 = .ok (.bipush 16, 2) := by decide +kernel
theorem d6_9 : decode prog_63_method_12_code 9 = .ok (.iushr, 1) := by decide +kernel
theorem d6_10 : decode prog_63_method_12_code 10 = .ok (.ixor, 1) := by decide +kernel
theorem d6_11 : decode prog_63_method_12_code 11 = .ok (.iload_n 1, 1) := by decide +kernel
theorem d6_12 : decode prog_63_method_12_code 12 = .ok (.iand, 1) := by decide +kernel
theorem d6_13 : decode prog_63_method_12_code 13 = .ok (.ireturn, 1) := by decide +kernel
theorem pn_6 : plainName "com/example/grammar_game_solver/grammargamesolver/summary/NumberedSets" = true := by first | (simp [plainName, overriddenIn]; done) | decide +kernel
theorem ef_6 (m : MethodId) (x0 : Int32) (x1 : Int32) : entryFrame m #[(.int x0), (.int x1)] 3 = mkF m 0 #[vi x0, vi x1, .unset] [] := by first | (simp [entryFrame, mkF, argsToLocals, Value.category]; done) | rfl
def f6 (p1 : Int32) (p2 : Int32) : Int32 := (((p1 * (-1640531527 : Int32)) ^^^ (((p1 * (-1640531527 : Int32)).toUInt32 >>> ((16 : Int32) &&& 31).toUInt32).toInt32)) &&& p2)
def Q6 (Z : State) (p1 : Int32) (p2 : Int32) (h0 : Heap) (n0 : Nat) (v : Option Value) (h : Heap) (L : List Loc) : Prop := v = some (.int (f6 p1 p2)) ∧ Fr n0 L ∧ h = h0
set_option maxRecDepth 65536 in
set_option maxHeartbeats 40000000 in
theorem rm6 (l : Launch) (Z : State) (a0 : Array Value) (hw : ∀ d ∈ tables_1, d.before a0 Z = true) (ws : List Jvm.Cond) (p1 : Int32) (p2 : Int32) (h0 : Heap) (n0 : Nat) (Z0 : n0 ≤ h0.size) :
    MetFree l y_1 (head1 (Jvm.Cond.code y_1 prog_63_method_12_code 3 (some .int) :: ws) ({ frames := 0, cells := 0, slots := 0, locals := 0 } : Room)) (fun a U => a = #[(.int p1), (.int p2)] ∧ Z.Warmed39 U.vm ∧ U.heap = h0) (fun _ _ _ _ _ => True) (fun _ U o U' => ∃ v L, o = .returned v ∧ Q6 Z p1 p2 h0 n0 v U'.heap L ∧ FrameEnd U o U' L ({ frames := 0, cells := 0, slots := 0, locals := 0 } : Room).cells ({ frames := 0, cells := 0, slots := 0, locals := 0 } : Room).slots) := by
  refine MetFree.of_bodySF (plainFor_of_name pn_6) hisR ?_
  intro p e s m args below meth c s₁ Bd hml0 hP hK
  obtain ⟨rfl, hZ, hh⟩ := hP
  have hx := Bd.exec
  have hby := Bd.bytes
  have hml : c.maxLocals = 3 := hml0
  have hown : s.vm.findClass "com/example/grammar_game_solver/grammargamesolver/summary/NumberedSets" = some m.cls := findClass_of_methodNamed Bd.named
  have hnm := (name_of_methodNamed Bd.named Bd.method).1
  have X0 : Stand p l e ({ frames := 0, cells := 0, slots := 0, locals := 0 } : Room) s m #[(.int p1), (.int p2)] below meth c s₁ [] 0 0 := Stand.of_body Bd
  have e0 : s₁.heap = h0 := by rw [← hh, Bd.state]; rfl
  have N0 := Fr.nil n0
  obtain ⟨F0, hF0⟩ : ∃ F : JFrame, F = entryFrame m #[(.int p1), (.int p2)] 3 := ⟨_, rfl⟩
  have pre0 : ∀ t, Steps p.tables e below (s₁.setTop F0) t → Steps p.tables e below (s₁.setTop (entryFrame m #[(.int p1), (.int p2)] 3)) t := fun t k => hF0 ▸ k
  have go0 : Go p e below s₁ F0 s₁ (mkF m 0 #[vi p1, vi p2, .unset] []) := fun t k => castTop (hF0.trans (ef_6 m p1 p2)) k
  have go1 : Go p e below s₁ F0 s₁ (mkF m 13 #[vi p1, vi p2, vi (p1 * (-1640531527 : Int32))] [(.int (((p1 * (-1640531527 : Int32)) ^^^ (((p1 * (-1640531527 : Int32)).toUInt32 >>> ((16 : Int32) &&& 31).toUInt32).toInt32)) &&& p2))]) := by
    intro t_ k_
    refine go0 t_ ?_
    refine o_iloadN X0 hx (hb hby d6_0) rfl ?_
    refine o_ldc X0 hx hown (mvT hZ (own_w hw 35 rfl)) (hb hby d6_1) ?_
    refine o_imul X0 hx (hb hby d6_3) ?_
    refine o_istoreN X0 hx (hb hby d6_4) (L' := #[vi p1, vi p2, vi (p1 * (-1640531527 : Int32))]) rfl ?_
    refine o_iloadN X0 hx (hb hby d6_5) rfl ?_
    refine o_iloadN X0 hx (hb hby d6_6) rfl ?_
    refine o_bipush X0 hx (hb hby d6_7) (v := 16) rfl ?_
    refine o_iushr X0 hx (hb hby d6_9) ?_
    refine o_ixor X0 hx (hb hby d6_10) ?_
    refine o_iloadN X0 hx (hb hby d6_11) rfl ?_
    refine o_iand X0 hx (hb hby d6_12) ?_
    exact k_
  obtain ⟨fs, hr, hrun, hended, hW, hsame⟩ := X0.leave (v := some (.int (((p1 * (-1640531527 : Int32)) ^^^ (((p1 * (-1640531527 : Int32)).toUInt32 >>> ((16 : Int32) &&& 31).toUInt32).toInt32)) &&& p2))) (fun h => by rw [Bd.returns] at h; cases h)
  refine ⟨_, _, pre0 _ (go1 _ ?_), hrun, hended, _, _, rfl, ?_, ⟨_, rfl⟩, hW, hsame.mono (by decide) (by decide)⟩
  · skip
    exact retI X0 hx Bd.returns (hb hby d6_13) hr
  · show Q6 Z p1 p2 h0 n0 _ s₁.heap _
    rw [e0]
    exact ⟨(congrArg (fun z => some (Value.int z)) (show (((p1 * (-1640531527 : Int32)) ^^^ (((p1 * (-1640531527 : Int32)).toUInt32 >>> ((16 : Int32) &&& 31).toUInt32).toInt32)) &&& p2) = f6 p1 p2 from by unfold f6; rfl)), N0, rfl⟩


theorem d1_0 : decode prog_63_method_1_code 0 = .ok (.aload_n 0, 1) := by decide +kernel
theorem d1_1 : decode prog_63_method_1_code 1 = .ok (.invokespecial 1, 3) := by decide +kernel
theorem d1_4 : decode prog_63_method_1_code 4 = .ok (.aload_n 0, 1) := by decide +kernel
theorem d1_5 : decode prog_63_method_1_code 5 = .ok (.iload_n 1, 1) := by decide +kernel
theorem d1_6 : decode prog_63_method_1_code 6 = .ok (.putfield 7, 3) := by decide +kernel
theorem d1_9 : decode prog_63_method_1_code 9 = .ok (.aload_n 0, 1) := by decide +kernel
theorem d1_10 : decode prog_63_method_1_code 10 = .ok (.bipush 16, 2) := by decide +kernel
theorem d1_12 : decode prog_63_method_1_code 12 = .ok (.iload_n 1, 1) := by decide +kernel
theorem d1_13 : decode prog_63_method_1_code 13 = .ok (.imul, 1) := by decide +kernel
theorem d1_14 : decode prog_63_method_1_code 14 = .ok (.newarray .long, 2) := by decide +kernel
theorem d1_16 : decode prog_63_method_1_code 16 = .ok (.putfield 13, 3) := by decide +kernel
theorem d1_19 : decode prog_63_method_1_code 19 = .ok (.aload_n 0, 1) := by decide +kernel
theorem d1_20 : decode prog_63_method_1_code 20 = .ok (.bipush 16, 2) := by decide +kernel
theorem d1_22 : decode prog_63_method_1_code 22 = .ok (.newarray .int, 2) := by decide +kernel
theorem d1_24 : decode prog_63_method_1_code 24 = .ok (.putfield 17, 3) := by decide +kernel
theorem d1_27 : decode prog_63_method_1_code 27 = .ok (.aload_n 0, 1) := by decide +kernel
theorem d1_28 : decode prog_63_method_1_code 28 = .ok (.bipush 32, 2) := by decide +kernel
theorem d1_30 : decode prog_63_method_1_code 30 = .ok (.newarray .int, 2) := by decide +kernel
theorem d1_32 : decode prog_63_method_1_code 32 = .ok (.putfield 21, 3) := by decide +kernel
theorem d1_35 : decode prog_63_method_1_code 35 = .ok (.return_, 1) := by decide +kernel
theorem pn_1_w2 : plainName "com/example/grammar_game_solver/grammargamesolver/summary/NumberedSets" = true := by first | (simp [plainName, overriddenIn]; done) | decide +kernel
theorem ef_1_w2 (m : MethodId) (x0 : Addr) : entryFrame m #[(.ref x0), (.int (2 : Int32))] 2 = mkF m 0 #[vr x0, vi (2 : Int32)] [] := by first | (simp [entryFrame, mkF, argsToLocals, Value.category]; done) | rfl
def Q1_w2 (Z : State) (a1 : Addr) (h0 : Heap) (n0 : Nat) (v : Option Value) (h : Heap) (L : List Loc) : Prop := ∃ bw : Addr, ∃ bh : Addr, ∃ bs : Addr, ∃ kw : ClassId, ∃ kh : ClassId, ∃ ks : ClassId, v = none ∧ Fr n0 L ∧ Keep h0 h [a1] ∧ h0.size ≤ bw ∧ h0.size ≤ bh ∧ h0.size ≤ bs ∧ bw ≠ bh ∧ bw ≠ bs ∧ bh ≠ bs ∧ Fld Z h a1 c_0 "width" "I" (.int (2 : Int32)) ∧ Fld Z h a1 c_0 "words" "[J" (.ref bw) ∧ Fld Z h a1 c_0 "hashes" "[I" (.ref bh) ∧ Fld Z h a1 c_0 "slots" "[I" (.ref bs) ∧ Fld Z h a1 c_0 "count" "I" (.int (0 : Int32)) ∧ Arv Z h bw kw .long (32 : Int32) (own_zl 32) (.long (0 : Int64)) ∧ Arv Z h bh kh .int (16 : Int32) (own_zi 16) (.int (0 : Int32)) ∧ Arv Z h bs ks .int (32 : Int32) (own_zi 32) (.int (0 : Int32))
set_option maxRecDepth 65536 in
set_option maxHeartbeats 40000000 in
theorem rm1_w2 (l : Launch) (Z : State) (a0 : Array Value) (hw : ∀ d ∈ tables_1, d.before a0 Z = true) (ws : List Jvm.Cond) (a1 : Addr) (h0 : Heap) (n0 : Nat) (Z0 : n0 ≤ h0.size) (E0 : Exa Z h0 a1 c_0) (F1 : Fld Z h0 a1 c_0 "width" "I" (.int (0 : Int32))) (F2 : Fld Z h0 a1 c_0 "words" "[J" .null) (F3 : Fld Z h0 a1 c_0 "hashes" "[I" .null) (F4 : Fld Z h0 a1 c_0 "slots" "[I" .null) (F5 : Fld Z h0 a1 c_0 "count" "I" (.int (0 : Int32))) (g1 : n0 ≤ a1) :
    MetFree l y_2 (head1 (Jvm.Cond.code y_2 prog_63_method_1_code 2 none :: ws) ({ frames := 1, cells := 3, slots := 80, locals := 12 } : Room)) (fun a U => a = #[(.ref a1), (.int (2 : Int32))] ∧ Z.Warmed39 U.vm ∧ U.heap = h0) (fun _ _ _ _ _ => True) (fun _ U o U' => ∃ v L, o = .returned v ∧ Q1_w2 Z a1 h0 n0 v U'.heap L ∧ FrameEnd U o U' L ({ frames := 1, cells := 3, slots := 80, locals := 12 } : Room).cells ({ frames := 1, cells := 3, slots := 80, locals := 12 } : Room).slots) := by
  refine MetFree.of_bodySF (plainFor_of_name pn_1_w2) hisR ?_
  intro p e s m args below meth c s₁ Bd hml0 hP hK
  obtain ⟨rfl, hZ, hh⟩ := hP
  have hx := Bd.exec
  have hby := Bd.bytes
  have hml : c.maxLocals = 2 := hml0
  have hown : s.vm.findClass "com/example/grammar_game_solver/grammargamesolver/summary/NumberedSets" = some m.cls := findClass_of_methodNamed Bd.named
  have hnm := (name_of_methodNamed Bd.named Bd.method).1
  have X0 : Stand p l e ({ frames := 1, cells := 3, slots := 80, locals := 12 } : Room) s m #[(.ref a1), (.int (2 : Int32))] below meth c s₁ [] 0 0 := Stand.of_body Bd
  have e0 : s₁.heap = h0 := by rw [← hh, Bd.state]; rfl
  have N0 := Fr.nil n0
  have K0 : Keep h0 h0 [a1] := Keep.refl h0 [a1]
  obtain ⟨F0, hF0⟩ : ∃ F : JFrame, F = entryFrame m #[(.ref a1), (.int (2 : Int32))] 2 := ⟨_, rfl⟩
  have pre0 : ∀ t, Steps p.tables e below (s₁.setTop F0) t → Steps p.tables e below (s₁.setTop (entryFrame m #[(.ref a1), (.int (2 : Int32))] 2)) t := fun t k => hF0 ▸ k
  have go0 : Go p e below s₁ F0 s₁ (mkF m 0 #[vr a1, vi (2 : Int32)] []) := fun t k => castTop (hF0.trans (ef_1_w2 m a1)) k
  have go1 : Go p e below s₁ F0 s₁ (mkF m 1 #[vr a1, vi (2 : Int32)] [(.ref a1)]) := by
    intro t_ k_
    refine go0 t_ ?_
    refine o_aloadN X0 hx (hb hby d1_0) rfl rfl ?_
    exact k_
  obtain ⟨T2, X2, e2, st2⟩ := initO X0 hx hZ hown (own_w hw 7 rfl) (own_w hw 8 rfl) (own_w hw 9 rfl) e0 (g := (mkF m 1 #[vr a1, vi (2 : Int32)] [(.ref a1)])) rfl (by rw [hml]; rfl) rfl (hb hby d1_1) (by decide) (W := 0) (by show 2 * 0 + _ ≤ _; exact Nat.le_of_eq rfl) (by decide)
  have go3 : Go p e below s₁ F0 T2 (mkF m 4 #[vr a1, vi (2 : Int32)] []) := fun t_ k_ => go1 t_ (st2 t_ k_)
  have go4 : Go p e below s₁ F0 T2 (mkF m 6 #[vr a1, vi (2 : Int32)] [(.int (2 : Int32)), (.ref a1)]) := by
    intro t_ k_
    refine go3 t_ ?_
    refine o_aloadN X2 hx (hb hby d1_4) rfl rfl ?_
    refine o_iloadN X2 hx (hb hby d1_5) rfl ?_
    exact k_
  obtain ⟨T5, h5, X5, e5, W5, st5⟩ := putF X2 hx hZ hown (host := "") (Or.inl (own_w hw 10 rfl)) Via.refl e2 F1 E0 (Or.inr ⟨(own_w hw 11 rfl), rfl, hnm⟩) (own_w hw 2 rfl) (ty := .int) (by decide) rfl rfl (g := (mkF m 6 #[vr a1, vi (2 : Int32)] [(.int (2 : Int32)), (.ref a1)])) rfl rfl (hb hby d1_6)
  have Fw5 : Fld Z h5 a1 c_0 "width" "I" (.int (2 : Int32)) := Fld.same W5 F1
  have K6 : Keep h0 h5 [a1] := K0.wr W5 (Or.inl (List.mem_of_getElem? (i := 0) rfl))
  have Z6 : n0 ≤ h5.size := Nat.le_trans Z0 (Keep.of_wr W5).1
  have N5 := Fr.snoc X5 N0 g1
  have go7 : Go p e below s₁ F0 T5 (mkF m 9 #[vr a1, vi (2 : Int32)] []) := fun t_ k_ => go4 t_ (st5 t_ k_)
  have go8 : Go p e below s₁ F0 T5 (mkF m 14 #[vr a1, vi (2 : Int32)] [(.int (32 : Int32)), (.ref a1)]) := by
    intro t_ k_
    refine go7 t_ ?_
    refine o_aloadN X5 hx (hb hby d1_9) rfl rfl ?_
    refine o_bipush X5 hx (hb hby d1_10) (v := 16) rfl ?_
    refine o_iloadN X5 hx (hb hby d1_12) rfl ?_
    refine o_imulE X5 hx (hb hby d1_13) (v := 32) rfl ?_
    exact k_
  obtain ⟨T9, h9, k9, X9, e9, E9, A9, st9⟩ := newP X5 hx hZ (own_w hw 0 rfl) e5 (g := (mkF m 14 #[vr a1, vi (2 : Int32)] [(.int (32 : Int32)), (.ref a1)])) rfl (hb hby d1_14) rfl (by decide) (cap := 32) (by decide) (by decide) (by decide) (by decide)
  obtain ⟨b9, gz9⟩ : ∃ z, z = h5.size := ⟨_, rfl⟩
  rw [← gz9] at A9 st9
  have F10 : Exa Z h5 a1 c_0 := (E0.wr W5)
  have ne11 : a1 ≠ b9 := Nat.ne_of_lt (Nat.lt_of_lt_of_le F10.lt (Nat.le_of_eq gz9.symm))
  have g_b9 : n0 ≤ b9 := Nat.le_trans Z6 (Nat.le_of_eq gz9.symm)
  have sz_b9 : h0.size ≤ b9 := Nat.le_trans K6.1 (Nat.le_of_eq gz9.symm)
  have K12 : Keep h0 h9 [a1] := K6.ext E9
  have Z12 : n0 ≤ h9.size := Nat.le_trans Z6 E9.1
  have V9 : Arv Z h9 b9 k9 .long (32 : Int32) (own_zl 32) (.long (0 : Int64)) := (Arv.new A9 (by decide)).pad (pad_rep [] (.long (0 : Int64)) 32)
  have go13 : Go p e below s₁ F0 T9 (mkF m 16 #[vr a1, vi (2 : Int32)] [(.ref b9), (.ref a1)]) := fun t_ k_ => go8 t_ (st9 t_ k_)
  have F14 : Exa Z h9 a1 c_0 := (F10.ext E9)
  have F15 : Fld Z h9 a1 c_0 "words" "[J" .null := ((F2.other W5 (Or.inr (slot_ne (Or.inl (own_w hw 13 rfl)) (Or.inr (own_w hw 11 rfl)) (by decide) (t := (.array .long)) (t' := .int) (by decide) (by decide)))).ext E9)
  obtain ⟨T16, h16, X16, e16, W16, st16⟩ := putF X9 hx hZ hown (host := "") (Or.inl (own_w hw 12 rfl)) Via.refl e9 F15 F14 (Or.inl (own_w hw 13 rfl)) (own_w hw 2 rfl) (ty := (.array .long)) (by decide) rfl rfl (g := (mkF m 16 #[vr a1, vi (2 : Int32)] [(.ref b9), (.ref a1)])) rfl rfl (hb hby d1_16)
  have Fw16 : Fld Z h16 a1 c_0 "words" "[J" (.ref b9) := Fld.same W16 F15
  have K17 : Keep h0 h16 [a1] := K12.wr W16 (Or.inl (List.mem_of_getElem? (i := 0) rfl))
  have Z17 : n0 ≤ h16.size := Nat.le_trans Z12 (Keep.of_wr W16).1
  have N16 := Fr.snoc X16 N5 g1
  have go18 : Go p e below s₁ F0 T16 (mkF m 19 #[vr a1, vi (2 : Int32)] []) := fun t_ k_ => go13 t_ (st16 t_ k_)
  have go19 : Go p e below s₁ F0 T16 (mkF m 22 #[vr a1, vi (2 : Int32)] [(.int (16 : Int32)), (.ref a1)]) := by
    intro t_ k_
    refine go18 t_ ?_
    refine o_aloadN X16 hx (hb hby d1_19) rfl rfl ?_
    refine o_bipush X16 hx (hb hby d1_20) (v := 16) rfl ?_
    exact k_
  obtain ⟨T20, h20, k20, X20, e20, E20, A20, st20⟩ := newP X16 hx hZ (own_w hw 14 rfl) e16 (g := (mkF m 22 #[vr a1, vi (2 : Int32)] [(.int (16 : Int32)), (.ref a1)])) rfl (hb hby d1_22) rfl (by decide) (cap := 16) (by decide) (by decide) (by decide) (by decide)
  obtain ⟨b20, gz20⟩ : ∃ z, z = h16.size := ⟨_, rfl⟩
  rw [← gz20] at A20 st20
  have F21 : Exa Z h16 a1 c_0 := (F14.wr W16)
  have ne22 : a1 ≠ b20 := Nat.ne_of_lt (Nat.lt_of_lt_of_le F21.lt (Nat.le_of_eq gz20.symm))
  have F23 : Arv Z h16 b9 k9 .long (32 : Int32) (own_zl 32) (.long (0 : Int64)) := (V9.other W16 (Ne.symm ne11))
  have ne24 : b9 ≠ b20 := Nat.ne_of_lt (Nat.lt_of_lt_of_le F23.lt (Nat.le_of_eq gz20.symm))
  have g_b20 : n0 ≤ b20 := Nat.le_trans Z17 (Nat.le_of_eq gz20.symm)
  have sz_b20 : h0.size ≤ b20 := Nat.le_trans K17.1 (Nat.le_of_eq gz20.symm)
  have K25 : Keep h0 h20 [a1] := K17.ext E20
  have Z25 : n0 ≤ h20.size := Nat.le_trans Z17 E20.1
  have V20 : Arv Z h20 b20 k20 .int (16 : Int32) (own_zi 16) (.int (0 : Int32)) := (Arv.new A20 (by decide)).pad (pad_rep [] (.int (0 : Int32)) 16)
  have go26 : Go p e below s₁ F0 T20 (mkF m 24 #[vr a1, vi (2 : Int32)] [(.ref b20), (.ref a1)]) := fun t_ k_ => go19 t_ (st20 t_ k_)
  have F27 : Exa Z h20 a1 c_0 := (F21.ext E20)
  have F28 : Fld Z h20 a1 c_0 "hashes" "[I" .null := ((((F3.other W5 (Or.inr (slot_ne (Or.inl (own_w hw 16 rfl)) (Or.inr (own_w hw 11 rfl)) (by decide) (t := (.array .int)) (t' := .int) (by decide) (by decide)))).ext E9).other W16 (Or.inr (slot_ne (Or.inl (own_w hw 16 rfl)) (Or.inl (own_w hw 13 rfl)) (by decide) (t := (.array .int)) (t' := (.array .long)) (by decide) (by decide)))).ext E20)
  obtain ⟨T29, h29, X29, e29, W29, st29⟩ := putF X20 hx hZ hown (host := "") (Or.inl (own_w hw 15 rfl)) Via.refl e20 F28 F27 (Or.inl (own_w hw 16 rfl)) (own_w hw 2 rfl) (ty := (.array .int)) (by decide) rfl rfl (g := (mkF m 24 #[vr a1, vi (2 : Int32)] [(.ref b20), (.ref a1)])) rfl rfl (hb hby d1_24)
  have Fw29 : Fld Z h29 a1 c_0 "hashes" "[I" (.ref b20) := Fld.same W29 F28
  have K30 : Keep h0 h29 [a1] := K25.wr W29 (Or.inl (List.mem_of_getElem? (i := 0) rfl))
  have Z30 : n0 ≤ h29.size := Nat.le_trans Z25 (Keep.of_wr W29).1
  have N29 := Fr.snoc X29 N16 g1
  have go31 : Go p e below s₁ F0 T29 (mkF m 27 #[vr a1, vi (2 : Int32)] []) := fun t_ k_ => go26 t_ (st29 t_ k_)
  have go32 : Go p e below s₁ F0 T29 (mkF m 30 #[vr a1, vi (2 : Int32)] [(.int (32 : Int32)), (.ref a1)]) := by
    intro t_ k_
    refine go31 t_ ?_
    refine o_aloadN X29 hx (hb hby d1_27) rfl rfl ?_
    refine o_bipush X29 hx (hb hby d1_28) (v := 32) rfl ?_
    exact k_
  obtain ⟨T33, h33, k33, X33, e33, E33, A33, st33⟩ := newP X29 hx hZ (own_w hw 14 rfl) e29 (g := (mkF m 30 #[vr a1, vi (2 : Int32)] [(.int (32 : Int32)), (.ref a1)])) rfl (hb hby d1_30) rfl (by decide) (cap := 32) (by decide) (by decide) (by decide) (by decide)
  obtain ⟨b33, gz33⟩ : ∃ z, z = h29.size := ⟨_, rfl⟩
  rw [← gz33] at A33 st33
  have F34 : Exa Z h29 a1 c_0 := (F27.wr W29)
  have ne35 : a1 ≠ b33 := Nat.ne_of_lt (Nat.lt_of_lt_of_le F34.lt (Nat.le_of_eq gz33.symm))
  have F36 : Arv Z h29 b9 k9 .long (32 : Int32) (own_zl 32) (.long (0 : Int64)) := ((F23.ext E20).other W29 (Ne.symm ne11))
  have ne37 : b9 ≠ b33 := Nat.ne_of_lt (Nat.lt_of_lt_of_le F36.lt (Nat.le_of_eq gz33.symm))
  have F38 : Arv Z h29 b20 k20 .int (16 : Int32) (own_zi 16) (.int (0 : Int32)) := (V20.other W29 (Ne.symm ne22))
  have ne39 : b20 ≠ b33 := Nat.ne_of_lt (Nat.lt_of_lt_of_le F38.lt (Nat.le_of_eq gz33.symm))
  have g_b33 : n0 ≤ b33 := Nat.le_trans Z30 (Nat.le_of_eq gz33.symm)
  have sz_b33 : h0.size ≤ b33 := Nat.le_trans K30.1 (Nat.le_of_eq gz33.symm)
  have K40 : Keep h0 h33 [a1] := K30.ext E33
  have Z40 : n0 ≤ h33.size := Nat.le_trans Z30 E33.1
  have V33 : Arv Z h33 b33 k33 .int (32 : Int32) (own_zi 32) (.int (0 : Int32)) := (Arv.new A33 (by decide)).pad (pad_rep [] (.int (0 : Int32)) 32)
  have go41 : Go p e below s₁ F0 T33 (mkF m 32 #[vr a1, vi (2 : Int32)] [(.ref b33), (.ref a1)]) := fun t_ k_ => go32 t_ (st33 t_ k_)
  have F42 : Exa Z h33 a1 c_0 := (F34.ext E33)
  have F43 : Fld Z h33 a1 c_0 "slots" "[I" .null := ((((((F4.other W5 (Or.inr (slot_ne (Or.inl (own_w hw 18 rfl)) (Or.inr (own_w hw 11 rfl)) (by decide) (t := (.array .int)) (t' := .int) (by decide) (by decide)))).ext E9).other W16 (Or.inr (slot_ne (Or.inl (own_w hw 18 rfl)) (Or.inl (own_w hw 13 rfl)) (by decide) (t := (.array .int)) (t' := (.array .long)) (by decide) (by decide)))).ext E20).other W29 (Or.inr (slot_ne (Or.inl (own_w hw 18 rfl)) (Or.inl (own_w hw 16 rfl)) (by decide) (t := (.array .int)) (t' := (.array .int)) (by decide) (by decide)))).ext E33)
  obtain ⟨T44, h44, X44, e44, W44, st44⟩ := putF X33 hx hZ hown (host := "") (Or.inl (own_w hw 17 rfl)) Via.refl e33 F43 F42 (Or.inl (own_w hw 18 rfl)) (own_w hw 2 rfl) (ty := (.array .int)) (by decide) rfl rfl (g := (mkF m 32 #[vr a1, vi (2 : Int32)] [(.ref b33), (.ref a1)])) rfl rfl (hb hby d1_32)
  have Fw44 : Fld Z h44 a1 c_0 "slots" "[I" (.ref b33) := Fld.same W44 F43
  have K45 : Keep h0 h44 [a1] := K40.wr W44 (Or.inl (List.mem_of_getElem? (i := 0) rfl))
  have Z45 : n0 ≤ h44.size := Nat.le_trans Z40 (Keep.of_wr W44).1
  have N44 := Fr.snoc X44 N29 g1
  have go46 : Go p e below s₁ F0 T44 (mkF m 35 #[vr a1, vi (2 : Int32)] []) := fun t_ k_ => go41 t_ (st44 t_ k_)
  obtain ⟨fs, hr, hrun, hended, hW, hsame⟩ := X44.leave (v := none) (fun _ => rfl)
  refine ⟨_, _, pre0 _ (go46 _ ?_), hrun, hended, _, _, rfl, ?_, ⟨_, rfl⟩, hW, hsame.mono (by decide) (by decide)⟩
  · skip
    exact X44.returnOut hx Bd.returns (hb hby d1_35) hr
  · show Q1_w2 Z a1 h0 n0 _ T44.heap _
    rw [e44]
    have F47 : Fld Z h44 a1 c_0 "width" "I" (.int (2 : Int32)) := ((((((Fw5.ext E9).other W16 (Or.inr (slot_ne (Or.inr (own_w hw 11 rfl)) (Or.inl (own_w hw 13 rfl)) (by decide) (t := .int) (t' := (.array .long)) (by decide) (by decide)))).ext E20).other W29 (Or.inr (slot_ne (Or.inr (own_w hw 11 rfl)) (Or.inl (own_w hw 16 rfl)) (by decide) (t := .int) (t' := (.array .int)) (by decide) (by decide)))).ext E33).other W44 (Or.inr (slot_ne (Or.inr (own_w hw 11 rfl)) (Or.inl (own_w hw 18 rfl)) (by decide) (t := .int) (t' := (.array .int)) (by decide) (by decide))))
    have F48 : Fld Z h44 a1 c_0 "words" "[J" (.ref b9) := ((((Fw16.ext E20).other W29 (Or.inr (slot_ne (Or.inl (own_w hw 13 rfl)) (Or.inl (own_w hw 16 rfl)) (by decide) (t := (.array .long)) (t' := (.array .int)) (by decide) (by decide)))).ext E33).other W44 (Or.inr (slot_ne (Or.inl (own_w hw 13 rfl)) (Or.inl (own_w hw 18 rfl)) (by decide) (t := (.array .long)) (t' := (.array .int)) (by decide) (by decide))))
    have F49 : Fld Z h44 a1 c_0 "hashes" "[I" (.ref b20) := ((Fw29.ext E33).other W44 (Or.inr (slot_ne (Or.inl (own_w hw 16 rfl)) (Or.inl (own_w hw 18 rfl)) (by decide) (t := (.array .int)) (t' := (.array .int)) (by decide) (by decide))))
    have F50 : Fld Z h44 a1 c_0 "count" "I" (.int (0 : Int32)) := (((((((F5.other W5 (Or.inr (slot_ne (Or.inl (own_w hw 37 rfl)) (Or.inr (own_w hw 11 rfl)) (by decide) (t := .int) (t' := .int) (by decide) (by decide)))).ext E9).other W16 (Or.inr (slot_ne (Or.inl (own_w hw 37 rfl)) (Or.inl (own_w hw 13 rfl)) (by decide) (t := .int) (t' := (.array .long)) (by decide) (by decide)))).ext E20).other W29 (Or.inr (slot_ne (Or.inl (own_w hw 37 rfl)) (Or.inl (own_w hw 16 rfl)) (by decide) (t := .int) (t' := (.array .int)) (by decide) (by decide)))).ext E33).other W44 (Or.inr (slot_ne (Or.inl (own_w hw 37 rfl)) (Or.inl (own_w hw 18 rfl)) (by decide) (t := .int) (t' := (.array .int)) (by decide) (by decide))))
    have F51 : Arv Z h44 b9 k9 .long (32 : Int32) (own_zl 32) (.long (0 : Int64)) := ((F36.ext E33).other W44 (Ne.symm ne11))
    have F52 : Arv Z h44 b20 k20 .int (16 : Int32) (own_zi 16) (.int (0 : Int32)) := ((F38.ext E33).other W44 (Ne.symm ne22))
    have F53 : Arv Z h44 b33 k33 .int (32 : Int32) (own_zi 32) (.int (0 : Int32)) := (V33.other W44 (Ne.symm ne35))
    exact ⟨b9, b20, b33, k9, k20, k33, rfl, N44, K45, sz_b9, sz_b20, sz_b33, ne24, ne37, ne39, F47, F48, F49, Fw44, F50, F51, F52, F53⟩


def own_sl (t : Int32) : List Value := (own_zi 32).set t.toNatClampNeg (.int (1 : Int32))
theorem own_z (n : Nat) : (own_zi 32).getD n (.int (0 : Int32)) = .int (0 : Int32) := by
  rw [List.getD_eq_getElem?_getD, List.getElem?_replicate]; split <;> rfl
theorem own_in {h t : Int32} (e : t = (f6 h (31 : Int32))) : ¬ t < 0 ∧ t < (32 : Int32) := by
  subst e; unfold f6
  have q : ∀ x : Int32, (x &&& (31 : Int32)).toInt = x.toInt % 32 := fun x => c_mask x 31 5 (by decide) (by decide)
  simp only [Int32.lt_iff_toInt_lt, q, show (0 : Int32).toInt = 0 from rfl, show (32 : Int32).toInt = 32 from rfl]
  omega
theorem own_lz {h t : Int32} (e : t = (f6 h (31 : Int32))) : t.toNatClampNeg < (own_zi 32).length := by
  have q := own_in e
  rw [List.length_replicate]
  simp only [Int32.lt_iff_toInt_lt, show (0 : Int32).toInt = 0 from rfl, show (32 : Int32).toInt = 32 from rfl, Int32.toNatClampNeg] at *
  omega

theorem own_in2 {x t : Int32} (e : t = (x &&& (31 : Int32))) : ¬ t < 0 ∧ t < (32 : Int32) := by
  subst e
  have q : (x &&& (31 : Int32)).toInt = x.toInt % 32 := c_mask x 31 5 (by decide) (by decide)
  simp only [Int32.lt_iff_toInt_lt, q, show (0 : Int32).toInt = 0 from rfl, show (32 : Int32).toInt = 32 from rfl]
  omega
theorem own_lt32 {t : Int32} (q : ¬ t < 0 ∧ t < (32 : Int32)) : t.toNatClampNeg < 32 := by
  simp only [Int32.lt_iff_toInt_lt, show (0 : Int32).toInt = 0 from rfl, show (32 : Int32).toInt = 32 from rfl, Int32.toNatClampNeg] at *
  omega
theorem own_ls {t sl : Int32} (q : ¬ t < 0 ∧ t < (32 : Int32)) : t.toNatClampNeg < (own_sl sl).length := by
  unfold own_sl
  rw [List.length_set, List.length_replicate]
  exact own_lt32 q
theorem own_hit {t sl : Int32} (q : ¬ sl < 0 ∧ sl < (32 : Int32)) (e : t = sl) : (own_sl sl).getD t.toNatClampNeg (.int (0 : Int32)) = .int (1 : Int32) := by
  subst e
  unfold own_sl
  rw [List.getD_eq_getElem?_getD, List.getElem?_set_self (by rw [List.length_replicate]; exact own_lt32 q)]
  rfl
theorem own_miss {t sl : Int32} (q1 : ¬ t < 0 ∧ t < (32 : Int32)) (q : ¬ sl < 0 ∧ sl < (32 : Int32)) (e : ¬ t = sl) : (own_sl sl).getD t.toNatClampNeg (.int (0 : Int32)) = .int (0 : Int32) := by
  unfold own_sl
  have ne : sl.toNatClampNeg ≠ t.toNatClampNeg := by
    intro z
    apply e
    apply Int32.toInt_inj.mp
    simp only [Int32.lt_iff_toInt_lt, show (0 : Int32).toInt = 0 from rfl, show (32 : Int32).toInt = 32 from rfl, Int32.toNatClampNeg] at *
    omega
  rw [List.getD_eq_getElem?_getD, List.getElem?_set_ne ne, ← List.getD_eq_getElem?_getD]
  exact own_z _
theorem own_next {t t2 sl : Int32} (q : ¬ sl < 0 ∧ sl < (32 : Int32)) (e : t = sl) (h : t2 = ((t + (1 : Int32)) &&& (31 : Int32))) : ¬ t2 = sl := by
  subst e
  intro z
  have a : ((t + (1 : Int32)) &&& (31 : Int32)).toInt = (t + (1 : Int32)).toInt % 32 := c_mask _ 31 5 (by decide) (by decide)
  have b := c_iadd t (1 : Int32)
  rw [← h, z] at a
  have := (t + (1 : Int32)).toInt_lt; have := (t + (1 : Int32)).le_toInt
  simp only [Int32.lt_iff_toInt_lt, show (0 : Int32).toInt = 0 from rfl, show (32 : Int32).toInt = 32 from rfl, show (1 : Int32).toInt = 1 from rfl] at *
  omega

theorem d4_0 : decode prog_63_method_6_code 0 = .ok (.iconst 1, 1) := by decide +kernel
theorem d4_1 : decode prog_63_method_6_code 1 = .ok (.istore_n 3, 1) := by decide +kernel
theorem d4_2 : decode prog_63_method_6_code 2 = .ok (.iconst 0, 1) := by decide +kernel
theorem d4_3 : decode prog_63_method_6_code 3 = .ok (.istore 4, 2) := by decide +kernel
theorem d4_5 : decode prog_63_method_6_code 5 = .ok (.iload 4, 2) := by decide +kernel
theorem d4_7 : decode prog_63_method_6_code 7 = .ok (.aload_n 0, 1) := by decide +kernel
theorem d4_8 : decode prog_63_method_6_code 8 = .ok (.getfield 7, 3) := by decide +kernel
theorem d4_11 : decode prog_63_method_6_code 11 = .ok (.if_icmp .ge 24, 3) := by decide +kernel
theorem d4_14 : decode prog_63_method_6_code 14 = .ok (.bipush 31, 2) := by decide +kernel
theorem d4_16 : decode prog_63_method_6_code 16 = .ok (.iload_n 3, 1) := by decide +kernel
theorem d4_17 : decode prog_63_method_6_code 17 = .ok (.imul, 1) := by decide +kernel
theorem d4_18 : decode prog_63_method_6_code 18 = .ok (.aload_n 1, 1) := by decide +kernel
theorem d4_19 : decode prog_63_method_6_code 19 = .ok (.iload_n 2, 1) := by decide +kernel
theorem d4_20 : decode prog_63_method_6_code 20 = .ok (.iload 4, 2) := by decide +kernel
theorem d4_22 : decode prog_63_method_6_code 22 = .ok (.iadd, 1) := by decide +kernel
theorem d4_23 : decode prog_63_method_6_code 23 = .ok (.laload, 1) := by decide +kernel
theorem d4_24 : decode prog_63_method_6_code 24 = .ok (.invokestatic 31, 3) := by decide +kernel
theorem d4_27 : decode prog_63_method_6_code 27 = .ok (.iadd, 1) := by decide +kernel
theorem d4_28 : decode prog_63_method_6_code 28 = .ok (.istore_n 3, 1) := by decide +kernel
theorem d4_29 : decode prog_63_method_6_code 29 = .ok (.iinc 4 1, 3) := by decide +kernel
theorem d4_32 : decode prog_63_method_6_code 32 = .ok (.goto (-27), 3) := by decide +kernel
theorem d4_35 : decode prog_63_method_6_code 35 = .ok (.aload_n 0, 1) := by decide +kernel
theorem d4_36 : decode prog_63_method_6_code 36 = .ok (.getfield 21, 3) := by decide +kernel
theorem d4_39 : decode prog_63_method_6_code 39 = .ok (.arraylength, 1) := by decide +kernel
theorem d4_40 : decode prog_63_method_6_code 40 = .ok (.iconst 1, 1) := by decide +kernel
theorem d4_41 : decode prog_63_method_6_code 41 = .ok (.isub, 1) := by decide +kernel
theorem d4_42 : decode prog_63_method_6_code 42 = .ok (.istore 4, 2) := by decide +kernel
theorem d4_44 : decode prog_63_method_6_code 44 = .ok (.iload_n 3, 1) := by decide +kernel
theorem d4_45 : decode prog_63_method_6_code 45 = .ok (.iload 4, 2) := by decide +kernel
theorem d4_47 : decode prog_63_method_6_code 47 = .ok (.invokestatic 37, 3) := by decide +kernel
theorem d4_50 : decode prog_63_method_6_code 50 = .ok (.istore 5, 2) := by decide +kernel
theorem d4_52 : decode prog_63_method_6_code 52 = .ok (.aload_n 0, 1) := by decide +kernel
theorem d4_53 : decode prog_63_method_6_code 53 = .ok (.getfield 21, 3) := by decide +kernel
theorem d4_56 : decode prog_63_method_6_code 56 = .ok (.iload 5, 2) := by decide +kernel
theorem d4_58 : decode prog_63_method_6_code 58 = .ok (.iaload, 1) := by decide +kernel
theorem d4_59 : decode prog_63_method_6_code 59 = .ok (.ifCond .eq 51, 3) := by decide +kernel
theorem d4_110 : decode prog_63_method_6_code 110 = .ok (.aload_n 0, 1) := by decide +kernel
theorem d4_111 : decode prog_63_method_6_code 111 = .ok (.dup, 1) := by decide +kernel
theorem d4_112 : decode prog_63_method_6_code 112 = .ok (.getfield 24, 3) := by decide +kernel
theorem d4_115 : decode prog_63_method_6_code 115 = .ok (.dup_x1, 1) := by decide +kernel
theorem d4_116 : decode prog_63_method_6_code 116 = .ok (.iconst 1, 1) := by decide +kernel
theorem d4_117 : decode prog_63_method_6_code 117 = .ok (.iadd, 1) := by decide +kernel
theorem d4_118 : decode prog_63_method_6_code 118 = .ok (.putfield 24, 3) := by decide +kernel
theorem d4_121 : decode prog_63_method_6_code 121 = .ok (.istore 6, 2) := by decide +kernel
theorem d4_123 : decode prog_63_method_6_code 123 = .ok (.iload 6, 2) := by decide +kernel
theorem d4_125 : decode prog_63_method_6_code 125 = .ok (.aload_n 0, 1) := by decide +kernel
theorem d4_126 : decode prog_63_method_6_code 126 = .ok (.getfield 17, 3) := by decide +kernel
theorem d4_129 : decode prog_63_method_6_code 129 = .ok (.arraylength, 1) := by decide +kernel
theorem d4_130 : decode prog_63_method_6_code 130 = .ok (.if_icmp .ne 38, 3) := by decide +kernel
theorem d4_168 : decode prog_63_method_6_code 168 = .ok (.aload_n 1, 1) := by decide +kernel
theorem d4_169 : decode prog_63_method_6_code 169 = .ok (.iload_n 2, 1) := by decide +kernel
theorem d4_170 : decode prog_63_method_6_code 170 = .ok (.aload_n 0, 1) := by decide +kernel
theorem d4_171 : decode prog_63_method_6_code 171 = .ok (.getfield 13, 3) := by decide +kernel
theorem d4_174 : decode prog_63_method_6_code 174 = .ok (.iload 6, 2) := by decide +kernel
theorem d4_176 : decode prog_63_method_6_code 176 = .ok (.aload_n 0, 1) := by decide +kernel
theorem d4_177 : decode prog_63_method_6_code 177 = .ok (.getfield 7, 3) := by decide +kernel
theorem d4_180 : decode prog_63_method_6_code 180 = .ok (.imul, 1) := by decide +kernel
theorem d4_181 : decode prog_63_method_6_code 181 = .ok (.aload_n 0, 1) := by decide +kernel
theorem d4_182 : decode prog_63_method_6_code 182 = .ok (.getfield 7, 3) := by decide +kernel
theorem d4_185 : decode prog_63_method_6_code 185 = .ok (.invokestatic 54, 3) := by decide +kernel
theorem d4_188 : decode prog_63_method_6_code 188 = .ok (.aload_n 0, 1) := by decide +kernel
theorem d4_189 : decode prog_63_method_6_code 189 = .ok (.getfield 17, 3) := by decide +kernel
theorem d4_192 : decode prog_63_method_6_code 192 = .ok (.iload 6, 2) := by decide +kernel
theorem d4_194 : decode prog_63_method_6_code 194 = .ok (.iload_n 3, 1) := by decide +kernel
theorem d4_195 : decode prog_63_method_6_code 195 = .ok (.iastore, 1) := by decide +kernel
theorem d4_196 : decode prog_63_method_6_code 196 = .ok (.aload_n 0, 1) := by decide +kernel
theorem d4_197 : decode prog_63_method_6_code 197 = .ok (.getfield 21, 3) := by decide +kernel
theorem d4_200 : decode prog_63_method_6_code 200 = .ok (.iload 5, 2) := by decide +kernel
theorem d4_202 : decode prog_63_method_6_code 202 = .ok (.iload 6, 2) := by decide +kernel
theorem d4_204 : decode prog_63_method_6_code 204 = .ok (.iconst 1, 1) := by decide +kernel
theorem d4_205 : decode prog_63_method_6_code 205 = .ok (.iadd, 1) := by decide +kernel
theorem d4_206 : decode prog_63_method_6_code 206 = .ok (.iastore, 1) := by decide +kernel
theorem d4_207 : decode prog_63_method_6_code 207 = .ok (.iconst 2, 1) := by decide +kernel
theorem d4_208 : decode prog_63_method_6_code 208 = .ok (.aload_n 0, 1) := by decide +kernel
theorem d4_209 : decode prog_63_method_6_code 209 = .ok (.getfield 24, 3) := by decide +kernel
theorem d4_212 : decode prog_63_method_6_code 212 = .ok (.imul, 1) := by decide +kernel
theorem d4_213 : decode prog_63_method_6_code 213 = .ok (.aload_n 0, 1) := by decide +kernel
theorem d4_214 : decode prog_63_method_6_code 214 = .ok (.getfield 21, 3) := by decide +kernel
theorem d4_217 : decode prog_63_method_6_code 217 = .ok (.arraylength, 1) := by decide +kernel
theorem d4_218 : decode prog_63_method_6_code 218 = .ok (.if_icmp .le 7, 3) := by decide +kernel
theorem d4_225 : decode prog_63_method_6_code 225 = .ok (.iload 6, 2) := by decide +kernel
theorem d4_227 : decode prog_63_method_6_code 227 = .ok (.ireturn, 1) := by decide +kernel
theorem pn_4_a2 : plainName "com/example/grammar_game_solver/grammargamesolver/summary/NumberedSets" = true := by first | (simp [plainName, overriddenIn]; done) | decide +kernel
theorem pd4_a2_0 : parseMethodDescriptor "(J)I" = some ⟨[.long], some .int⟩ := by decide +kernel
theorem pd4_a2_1 : parseMethodDescriptor "(II)I" = some ⟨[.int, .int], some .int⟩ := by decide +kernel
theorem ef_4_a2 (m : MethodId) (x0 : Addr) (x1 : Addr) : entryFrame m #[(.ref x0), (.ref x1), (.int (0 : Int32))] 7 = mkF m 0 #[vr x0, vr x1, vi (0 : Int32), .unset, .unset, .unset, .unset] [] := by first | (simp [entryFrame, mkF, argsToLocals, Value.category]; done) | rfl
def Q4_a2 (Z : State) (a1 : Addr) (a2 : Addr) (bw : Addr) (bh : Addr) (bs : Addr) (kw : ClassId) (kh : ClassId) (ks : ClassId) (k2 : ClassId) (x0 : Int64) (x1 : Int64) (h0 : Heap) (n0 : Nat) (v : Option Value) (h : Heap) (L : List Loc) : Prop := ∃ hs : Int32, ∃ sl : Int32, v = some (.int (0 : Int32)) ∧ Fr n0 L ∧ Keep h0 h [a1, bw, bh, bs] ∧ Fld Z h a1 c_0 "width" "I" (.int (2 : Int32)) ∧ Fld Z h a1 c_0 "words" "[J" (.ref bw) ∧ Fld Z h a1 c_0 "hashes" "[I" (.ref bh) ∧ Fld Z h a1 c_0 "slots" "[I" (.ref bs) ∧ Fld Z h a1 c_0 "count" "I" (.int (1 : Int32)) ∧ Arv Z h bw kw .long (32 : Int32) ((.long x0) :: (.long x1) :: own_zl 30) (.long (0 : Int64)) ∧ Arv Z h bh kh .int (16 : Int32) ((.int hs) :: own_zi 15) (.int (0 : Int32)) ∧ Arv Z h bs ks .int (32 : Int32) (own_sl sl) (.int (0 : Int32)) ∧ (hs = (((31 : Int32) * ((31 : Int32) + (f5 x0))) + (f5 x1))) ∧ (sl = (f6 hs (31 : Int32)))
set_option maxRecDepth 65536 in
set_option maxHeartbeats 40000000 in
theorem rm4_a2 (l : Launch) (Z : State) (a0 : Array Value) (hw : ∀ d ∈ tables_1, d.before a0 Z = true) (ws : List Jvm.Cond) (a1 : Addr) (a2 : Addr) (bw : Addr) (bh : Addr) (bs : Addr) (kw : ClassId) (kh : ClassId) (ks : ClassId) (k2 : ClassId) (x0 : Int64) (x1 : Int64) (h0 : Heap) (n0 : Nat) (Z0 : n0 ≤ h0.size) (E0 : Exa Z h0 a1 c_0) (Fwi : Fld Z h0 a1 c_0 "width" "I" (.int (2 : Int32))) (Fwo : Fld Z h0 a1 c_0 "words" "[J" (.ref bw)) (Fha : Fld Z h0 a1 c_0 "hashes" "[I" (.ref bh)) (Fsl : Fld Z h0 a1 c_0 "slots" "[I" (.ref bs)) (Fco : Fld Z h0 a1 c_0 "count" "I" (.int (0 : Int32))) (Vw : Arv Z h0 bw kw .long (32 : Int32) (own_zl 32) (.long (0 : Int64))) (Vh : Arv Z h0 bh kh .int (16 : Int32) (own_zi 16) (.int (0 : Int32))) (Vs : Arv Z h0 bs ks .int (32 : Int32) (own_zi 32) (.int (0 : Int32))) (V2 : Arv Z h0 a2 k2 .long (2 : Int32) [(.long x0), (.long x1)] (.long (0 : Int64))) (g1 : n0 ≤ a1) (gw : n0 ≤ bw) (gh : n0 ≤ bh) (gs : n0 ≤ bs) (naw : a1 ≠ bw) (nah : a1 ≠ bh) (nas : a1 ≠ bs) (n2w : a2 ≠ bw) (n2h : a2 ≠ bh) (n2s : a2 ≠ bs) (n12 : a1 ≠ a2) (nwh : bw ≠ bh) (nws : bw ≠ bs) (nhs : bh ≠ bs) :
    MetFree l y_3 (head1 (Jvm.Cond.code y_3 prog_63_method_6_code 7 (some .int) :: ws) ({ frames := 1, cells := 0, slots := 0, locals := 18 } : Room)) (fun a U => a = #[(.ref a1), (.ref a2), (.int (0 : Int32))] ∧ Z.Warmed39 U.vm ∧ U.heap = h0) (fun _ _ _ _ _ => True) (fun _ U o U' => ∃ v L, o = .returned v ∧ Q4_a2 Z a1 a2 bw bh bs kw kh ks k2 x0 x1 h0 n0 v U'.heap L ∧ FrameEnd U o U' L ({ frames := 1, cells := 0, slots := 0, locals := 18 } : Room).cells ({ frames := 1, cells := 0, slots := 0, locals := 18 } : Room).slots) := by
  refine MetFree.of_bodySF (plainFor_of_name pn_4_a2) hisR ?_
  intro p e s m args below meth c s₁ Bd hml0 hP hK
  obtain ⟨rfl, hZ, hh⟩ := hP
  have hx := Bd.exec
  have hby := Bd.bytes
  have hml : c.maxLocals = 7 := hml0
  have hown : s.vm.findClass "com/example/grammar_game_solver/grammargamesolver/summary/NumberedSets" = some m.cls := findClass_of_methodNamed Bd.named
  have hnm := (name_of_methodNamed Bd.named Bd.method).1
  have X0 : Stand p l e ({ frames := 1, cells := 0, slots := 0, locals := 18 } : Room) s m #[(.ref a1), (.ref a2), (.int (0 : Int32))] below meth c s₁ [] 0 0 := Stand.of_body Bd
  have e0 : s₁.heap = h0 := by rw [← hh, Bd.state]; rfl
  have N0 := Fr.nil n0
  have K0 : Keep h0 h0 [a1, bw, bh, bs] := Keep.refl h0 [a1, bw, bh, bs]
  obtain ⟨F0, hF0⟩ : ∃ F : JFrame, F = entryFrame m #[(.ref a1), (.ref a2), (.int (0 : Int32))] 7 := ⟨_, rfl⟩
  have pre0 : ∀ t, Steps p.tables e below (s₁.setTop F0) t → Steps p.tables e below (s₁.setTop (entryFrame m #[(.ref a1), (.ref a2), (.int (0 : Int32))] 7)) t := fun t k => hF0 ▸ k
  have go0 : Go p e below s₁ F0 s₁ (mkF m 0 #[vr a1, vr a2, vi (0 : Int32), .unset, .unset, .unset, .unset] []) := fun t k => castTop (hF0.trans (ef_4_a2 m a1 a2)) k
  have go1 : Go p e below s₁ F0 s₁ (mkF m 8 #[vr a1, vr a2, vi (0 : Int32), vi (1 : Int32), vi (0 : Int32), .unset, .unset] [(.ref a1), (.int (0 : Int32))]) := by
    intro t_ k_
    refine go0 t_ ?_
    refine o_iconst X0 hx (hb hby d4_0) (v := 1) rfl ?_
    refine o_istoreN X0 hx (hb hby d4_1) (L' := #[vr a1, vr a2, vi (0 : Int32), vi (1 : Int32), .unset, .unset, .unset]) rfl ?_
    refine o_iconst X0 hx (hb hby d4_2) (v := 0) rfl ?_
    refine o_istore X0 hx (hb hby d4_3) (L' := #[vr a1, vr a2, vi (0 : Int32), vi (1 : Int32), vi (0 : Int32), .unset, .unset]) rfl ?_
    refine o_iload X0 hx (hb hby d4_5) rfl ?_
    refine o_aloadN X0 hx (hb hby d4_7) rfl rfl ?_
    exact k_
  obtain ⟨T2, X2, e2, st2⟩ := getF X0 hx hZ hown (host := "") (Or.inl (own_w hw 10 rfl)) Via.refl e0 Fwi (g := (mkF m 8 #[vr a1, vr a2, vi (0 : Int32), vi (1 : Int32), vi (0 : Int32), .unset, .unset] [(.ref a1), (.int (0 : Int32))])) rfl rfl (hb hby d4_8)
  have go3 : Go p e below s₁ F0 T2 (mkF m 11 #[vr a1, vr a2, vi (0 : Int32), vi (1 : Int32), vi (0 : Int32), .unset, .unset] [(.int (2 : Int32)), (.int (0 : Int32))]) := fun t_ k_ => go1 t_ (st2 t_ k_)
  have go4 : Go p e below s₁ F0 T2 (mkF m 23 #[vr a1, vr a2, vi (0 : Int32), vi (1 : Int32), vi (0 : Int32), .unset, .unset] [(.int (0 : Int32)), (.ref a2), (.int (31 : Int32))]) := by
    intro t_ k_
    refine go3 t_ ?_
    refine o_icmpNo X2 hx (hb hby d4_11) (tlt (by decide : (0 : Int32) < (2 : Int32))).2.1 ?_
    refine o_bipush X2 hx (hb hby d4_14) (v := 31) rfl ?_
    refine o_iloadN X2 hx (hb hby d4_16) rfl ?_
    refine o_imulE X2 hx (hb hby d4_17) (v := 31) rfl ?_
    refine o_aloadN X2 hx (hb hby d4_18) rfl rfl ?_
    refine o_iloadN X2 hx (hb hby d4_19) rfl ?_
    refine o_iload X2 hx (hb hby d4_20) rfl ?_
    refine o_iaddE X2 hx (hb hby d4_22) (v := 0) rfl ?_
    exact k_
  obtain ⟨cl5, Ar5, -, Sz5, Nn5, Hs5, -⟩ := id V2
  have hin5 : ¬ ((0 : Int32) < 0 ∨ cl5.slots.size ≤ ((0 : Int32)).toNatClampNeg) := inb_of Sz5 ⟨by decide, by decide⟩
  have hat5 : cl5.slots[((0 : Int32)).toNatClampNeg]? = some (.long x0) := Hs5.at hin5 rfl
  have go6 : Go p e below s₁ F0 T2 (mkF m 24 #[vr a1, vr a2, vi (0 : Int32), vi (1 : Int32), vi (0 : Int32), .unset, .unset] [(.long x0), (.int (31 : Int32))]) := by
    intro t_ k_
    refine go4 t_ ?_
    refine o_laload X2 hx hZ e2 Ar5 hin5 hat5 (hb hby d4_23) ?_
    exact k_
  obtain ⟨_, _, ⟨T7, L7, k7, n7⟩, -, X7, ⟨Lc7, hQ7, l7, y7, z7⟩, st7⟩ := Jvm.LawKit.callS X2 hx (y := y_0) hown (mvT hZ (own_w hw 28 rfl)) (mvT hZ (own_w hw 29 rfl)) (mvT hZ (own_w hw 30 rfl)) (mvT hZ (own_w hw 31 rfl)) (by decide) (backOf (W := 1) (rm5 l Z a0 hw [] x0 h0 n0 Z0 ) hZ (own_w hw 31 rfl) (own_w hw 30 rfl) (by decide) (by decide)) (g := (mkF m 24 #[vr a1, vr a2, vi (0 : Int32), vi (1 : Int32), vi (0 : Int32), .unset, .unset] [(.long x0), (.int (31 : Int32))])) rfl (by rw [hml]; rfl) (argsL := [(.long x0)]) (rest := [(.int (31 : Int32))]) (lenOf pd4_a2_0 rfl) rfl (by show 2 * 0 + _ ≤ _; exact Nat.le_of_eq rfl) (hb hby d4_24) (fun _ _ => ⟨rfl, e2, (by decide : 0 + 0 ≤ _), (by decide : 0 + 0 ≤ _)⟩)
  dsimp only [Pt.U, Pt.locs, Pt.cells, Pt.slots] at X7 l7 y7 z7 st7 hQ7
  subst l7 y7 z7
  obtain ⟨rfl, Nq7, eh7⟩ := hQ7
  have N7 := Fr.app N0 Nq7
  have go8 : Go p e below s₁ F0 T7 (mkF m 27 #[vr a1, vr a2, vi (0 : Int32), vi (1 : Int32), vi (0 : Int32), .unset, .unset] [(.int (f5 x0)), (.int (31 : Int32))]) := fun t_ k_ => go6 t_ (st7 t_ k_)
  have go9 : Go p e below s₁ F0 T7 (mkF m 8 #[vr a1, vr a2, vi (0 : Int32), vi ((31 : Int32) + (f5 x0)), vi (1 : Int32), .unset, .unset] [(.ref a1), (.int (1 : Int32))]) := by
    intro t_ k_
    refine go8 t_ ?_
    refine o_iadd X7 hx (hb hby d4_27) ?_
    refine o_istoreN X7 hx (hb hby d4_28) (L' := #[vr a1, vr a2, vi (0 : Int32), vi ((31 : Int32) + (f5 x0)), vi (0 : Int32), .unset, .unset]) rfl ?_
    refine o_iinc X7 hx (hb hby d4_29) rfl (L' := #[vr a1, vr a2, vi (0 : Int32), vi ((31 : Int32) + (f5 x0)), vi (1 : Int32), .unset, .unset]) rfl ?_
    refine o_goto X7 hx (hb hby d4_32) (pc' := 5) rfl (by decide) ?_
    refine o_iload X7 hx (hb hby d4_5) rfl ?_
    refine o_aloadN X7 hx (hb hby d4_7) rfl rfl ?_
    exact k_
  obtain ⟨T10, X10, e10, st10⟩ := getF X7 hx hZ hown (host := "") (Or.inl (own_w hw 10 rfl)) Via.refl eh7 Fwi (g := (mkF m 8 #[vr a1, vr a2, vi (0 : Int32), vi ((31 : Int32) + (f5 x0)), vi (1 : Int32), .unset, .unset] [(.ref a1), (.int (1 : Int32))])) rfl rfl (hb hby d4_8)
  have go11 : Go p e below s₁ F0 T10 (mkF m 11 #[vr a1, vr a2, vi (0 : Int32), vi ((31 : Int32) + (f5 x0)), vi (1 : Int32), .unset, .unset] [(.int (2 : Int32)), (.int (1 : Int32))]) := fun t_ k_ => go9 t_ (st10 t_ k_)
  have go12 : Go p e below s₁ F0 T10 (mkF m 23 #[vr a1, vr a2, vi (0 : Int32), vi ((31 : Int32) + (f5 x0)), vi (1 : Int32), .unset, .unset] [(.int (1 : Int32)), (.ref a2), (.int ((31 : Int32) * ((31 : Int32) + (f5 x0))))]) := by
    intro t_ k_
    refine go11 t_ ?_
    refine o_icmpNo X10 hx (hb hby d4_11) (tlt (by decide : (1 : Int32) < (2 : Int32))).2.1 ?_
    refine o_bipush X10 hx (hb hby d4_14) (v := 31) rfl ?_
    refine o_iloadN X10 hx (hb hby d4_16) rfl ?_
    refine o_imul X10 hx (hb hby d4_17) ?_
    refine o_aloadN X10 hx (hb hby d4_18) rfl rfl ?_
    refine o_iloadN X10 hx (hb hby d4_19) rfl ?_
    refine o_iload X10 hx (hb hby d4_20) rfl ?_
    refine o_iaddE X10 hx (hb hby d4_22) (v := 1) rfl ?_
    exact k_
  obtain ⟨cl13, Ar13, -, Sz13, Nn13, Hs13, -⟩ := id V2
  have hin13 : ¬ ((1 : Int32) < 0 ∨ cl13.slots.size ≤ ((1 : Int32)).toNatClampNeg) := inb_of Sz13 ⟨by decide, by decide⟩
  have hat13 : cl13.slots[((1 : Int32)).toNatClampNeg]? = some (.long x1) := Hs13.at hin13 rfl
  have go14 : Go p e below s₁ F0 T10 (mkF m 24 #[vr a1, vr a2, vi (0 : Int32), vi ((31 : Int32) + (f5 x0)), vi (1 : Int32), .unset, .unset] [(.long x1), (.int ((31 : Int32) * ((31 : Int32) + (f5 x0))))]) := by
    intro t_ k_
    refine go12 t_ ?_
    refine o_laload X10 hx hZ e10 Ar13 hin13 hat13 (hb hby d4_23) ?_
    exact k_
  obtain ⟨_, _, ⟨T15, L15, k15, n15⟩, -, X15, ⟨Lc15, hQ15, l15, y15, z15⟩, st15⟩ := Jvm.LawKit.callS X10 hx (y := y_0) hown (mvT hZ (own_w hw 28 rfl)) (mvT hZ (own_w hw 29 rfl)) (mvT hZ (own_w hw 30 rfl)) (mvT hZ (own_w hw 31 rfl)) (by decide) (backOf (W := 1) (rm5 l Z a0 hw [] x1 h0 n0 Z0 ) hZ (own_w hw 31 rfl) (own_w hw 30 rfl) (by decide) (by decide)) (g := (mkF m 24 #[vr a1, vr a2, vi (0 : Int32), vi ((31 : Int32) + (f5 x0)), vi (1 : Int32), .unset, .unset] [(.long x1), (.int ((31 : Int32) * ((31 : Int32) + (f5 x0))))])) rfl (by rw [hml]; rfl) (argsL := [(.long x1)]) (rest := [(.int ((31 : Int32) * ((31 : Int32) + (f5 x0))))]) (lenOf pd4_a2_0 rfl) rfl (by show 2 * 0 + _ ≤ _; exact Nat.le_of_eq rfl) (hb hby d4_24) (fun _ _ => ⟨rfl, e10, (by decide : 0 + 0 ≤ _), (by decide : 0 + 0 ≤ _)⟩)
  dsimp only [Pt.U, Pt.locs, Pt.cells, Pt.slots] at X15 l15 y15 z15 st15 hQ15
  subst l15 y15 z15
  obtain ⟨rfl, Nq15, eh15⟩ := hQ15
  have N15 := Fr.app N7 Nq15
  have go16 : Go p e below s₁ F0 T15 (mkF m 27 #[vr a1, vr a2, vi (0 : Int32), vi ((31 : Int32) + (f5 x0)), vi (1 : Int32), .unset, .unset] [(.int (f5 x1)), (.int ((31 : Int32) * ((31 : Int32) + (f5 x0))))]) := fun t_ k_ => go14 t_ (st15 t_ k_)
  have go17 : Go p e below s₁ F0 T15 (mkF m 8 #[vr a1, vr a2, vi (0 : Int32), vi (((31 : Int32) * ((31 : Int32) + (f5 x0))) + (f5 x1)), vi (2 : Int32), .unset, .unset] [(.ref a1), (.int (2 : Int32))]) := by
    intro t_ k_
    refine go16 t_ ?_
    refine o_iadd X15 hx (hb hby d4_27) ?_
    refine o_istoreN X15 hx (hb hby d4_28) (L' := #[vr a1, vr a2, vi (0 : Int32), vi (((31 : Int32) * ((31 : Int32) + (f5 x0))) + (f5 x1)), vi (1 : Int32), .unset, .unset]) rfl ?_
    refine o_iinc X15 hx (hb hby d4_29) rfl (L' := #[vr a1, vr a2, vi (0 : Int32), vi (((31 : Int32) * ((31 : Int32) + (f5 x0))) + (f5 x1)), vi (2 : Int32), .unset, .unset]) rfl ?_
    refine o_goto X15 hx (hb hby d4_32) (pc' := 5) rfl (by decide) ?_
    refine o_iload X15 hx (hb hby d4_5) rfl ?_
    refine o_aloadN X15 hx (hb hby d4_7) rfl rfl ?_
    exact k_
  obtain ⟨T18, X18, e18, st18⟩ := getF X15 hx hZ hown (host := "") (Or.inl (own_w hw 10 rfl)) Via.refl eh15 Fwi (g := (mkF m 8 #[vr a1, vr a2, vi (0 : Int32), vi (((31 : Int32) * ((31 : Int32) + (f5 x0))) + (f5 x1)), vi (2 : Int32), .unset, .unset] [(.ref a1), (.int (2 : Int32))])) rfl rfl (hb hby d4_8)
  have go19 : Go p e below s₁ F0 T18 (mkF m 11 #[vr a1, vr a2, vi (0 : Int32), vi (((31 : Int32) * ((31 : Int32) + (f5 x0))) + (f5 x1)), vi (2 : Int32), .unset, .unset] [(.int (2 : Int32)), (.int (2 : Int32))]) := fun t_ k_ => go17 t_ (st18 t_ k_)
  have go20 : Go p e below s₁ F0 T18 (mkF m 35 #[vr a1, vr a2, vi (0 : Int32), vi (((31 : Int32) * ((31 : Int32) + (f5 x0))) + (f5 x1)), vi (2 : Int32), .unset, .unset] []) := by
    intro t_ k_
    refine go19 t_ ?_
    refine o_icmpYes X18 hx (hb hby d4_11) (pc' := 35) rfl (by decide) (flt (by decide : ¬ ((2 : Int32) < (2 : Int32)))).2.1 ?_
    exact k_
  obtain ⟨hs, h_hs⟩ : ∃ z : Int32, z = (((31 : Int32) * ((31 : Int32) + (f5 x0))) + (f5 x1)) := ⟨_, rfl⟩
  have go21 : Go p e below s₁ F0 T18 (mkF m 35 #[vr a1, vr a2, vi (0 : Int32), vi hs, vi (2 : Int32), .unset, .unset] []) := by rw [h_hs]; exact go20
  have go22 : Go p e below s₁ F0 T18 (mkF m 36 #[vr a1, vr a2, vi (0 : Int32), vi hs, vi (2 : Int32), .unset, .unset] [(.ref a1)]) := by
    intro t_ k_
    refine go21 t_ ?_
    refine o_aloadN X18 hx (hb hby d4_35) rfl rfl ?_
    exact k_
  obtain ⟨T23, X23, e23, st23⟩ := getF X18 hx hZ hown (host := "") (Or.inl (own_w hw 17 rfl)) Via.refl e18 Fsl (g := (mkF m 36 #[vr a1, vr a2, vi (0 : Int32), vi hs, vi (2 : Int32), .unset, .unset] [(.ref a1)])) rfl rfl (hb hby d4_36)
  have go24 : Go p e below s₁ F0 T23 (mkF m 39 #[vr a1, vr a2, vi (0 : Int32), vi hs, vi (2 : Int32), .unset, .unset] [(.ref bs)]) := fun t_ k_ => go22 t_ (st23 t_ k_)
  obtain ⟨cl25, Ar25, -, Sz25, Nn25, -, -⟩ := id Vs
  have go26 : Go p e below s₁ F0 T23 (mkF m 47 #[vr a1, vr a2, vi (0 : Int32), vi hs, vi (31 : Int32), .unset, .unset] [(.int (31 : Int32)), (.int hs)]) := by
    intro t_ k_
    refine go24 t_ ?_
    refine o_len X23 hx hZ e23 Ar25 Sz25 Nn25 (hb hby d4_39) ?_
    refine o_iconst X23 hx (hb hby d4_40) (v := 1) rfl ?_
    refine o_isubE X23 hx (hb hby d4_41) (v := 31) rfl ?_
    refine o_istore X23 hx (hb hby d4_42) (L' := #[vr a1, vr a2, vi (0 : Int32), vi hs, vi (31 : Int32), .unset, .unset]) rfl ?_
    refine o_iloadN X23 hx (hb hby d4_44) rfl ?_
    refine o_iload X23 hx (hb hby d4_45) rfl ?_
    exact k_
  obtain ⟨_, _, ⟨T27, L27, k27, n27⟩, -, X27, ⟨Lc27, hQ27, l27, y27, z27⟩, st27⟩ := Jvm.LawKit.callS X23 hx (y := y_1) hown (mvT hZ (own_w hw 32 rfl)) (mvT hZ (own_w hw 33 rfl)) (mvT hZ (own_w hw 3 rfl)) (mvT hZ (own_w hw 34 rfl)) (by decide) (backOf (W := 0) (rm6 l Z a0 hw [] hs (31 : Int32) h0 n0 Z0 ) hZ (own_w hw 34 rfl) (own_w hw 3 rfl) (by decide) (by decide)) (g := (mkF m 47 #[vr a1, vr a2, vi (0 : Int32), vi hs, vi (31 : Int32), .unset, .unset] [(.int (31 : Int32)), (.int hs)])) rfl (by rw [hml]; rfl) (argsL := [(.int hs), (.int (31 : Int32))]) (rest := []) (lenOf pd4_a2_1 rfl) rfl (by show 2 * 0 + _ ≤ _; exact Nat.le_of_eq rfl) (hb hby d4_47) (fun _ _ => ⟨rfl, e23, (by decide : 0 + 0 ≤ _), (by decide : 0 + 0 ≤ _)⟩)
  dsimp only [Pt.U, Pt.locs, Pt.cells, Pt.slots] at X27 l27 y27 z27 st27 hQ27
  subst l27 y27 z27
  obtain ⟨rfl, Nq27, eh27⟩ := hQ27
  have N27 := Fr.app N15 Nq27
  have go28 : Go p e below s₁ F0 T27 (mkF m 50 #[vr a1, vr a2, vi (0 : Int32), vi hs, vi (31 : Int32), .unset, .unset] [(.int (f6 hs (31 : Int32)))]) := fun t_ k_ => go26 t_ (st27 t_ k_)
  have go29 : Go p e below s₁ F0 T27 (mkF m 52 #[vr a1, vr a2, vi (0 : Int32), vi hs, vi (31 : Int32), vi (f6 hs (31 : Int32)), .unset] []) := by
    intro t_ k_
    refine go28 t_ ?_
    refine o_istore X27 hx (hb hby d4_50) (L' := #[vr a1, vr a2, vi (0 : Int32), vi hs, vi (31 : Int32), vi (f6 hs (31 : Int32)), .unset]) rfl ?_
    exact k_
  obtain ⟨sl, h_sl⟩ : ∃ z : Int32, z = (f6 hs (31 : Int32)) := ⟨_, rfl⟩
  have go30 : Go p e below s₁ F0 T27 (mkF m 52 #[vr a1, vr a2, vi (0 : Int32), vi hs, vi (31 : Int32), vi sl, .unset] []) := by rw [h_sl]; exact go29
  have go31 : Go p e below s₁ F0 T27 (mkF m 53 #[vr a1, vr a2, vi (0 : Int32), vi hs, vi (31 : Int32), vi sl, .unset] [(.ref a1)]) := by
    intro t_ k_
    refine go30 t_ ?_
    refine o_aloadN X27 hx (hb hby d4_52) rfl rfl ?_
    exact k_
  obtain ⟨T32, X32, e32, st32⟩ := getF X27 hx hZ hown (host := "") (Or.inl (own_w hw 17 rfl)) Via.refl eh27 Fsl (g := (mkF m 53 #[vr a1, vr a2, vi (0 : Int32), vi hs, vi (31 : Int32), vi sl, .unset] [(.ref a1)])) rfl rfl (hb hby d4_53)
  have go33 : Go p e below s₁ F0 T32 (mkF m 56 #[vr a1, vr a2, vi (0 : Int32), vi hs, vi (31 : Int32), vi sl, .unset] [(.ref bs)]) := fun t_ k_ => go31 t_ (st32 t_ k_)
  have go34 : Go p e below s₁ F0 T32 (mkF m 58 #[vr a1, vr a2, vi (0 : Int32), vi hs, vi (31 : Int32), vi sl, .unset] [(.int sl), (.ref bs)]) := by
    intro t_ k_
    refine go33 t_ ?_
    refine o_iload X32 hx (hb hby d4_56) rfl ?_
    exact k_
  obtain ⟨cl35, Ar35, -, Sz35, Nn35, Hs35, -⟩ := id Vs
  have hin35 : ¬ (sl < 0 ∨ cl35.slots.size ≤ (sl).toNatClampNeg) := inb_of Sz35 (own_in h_sl)
  have hat35 : cl35.slots[(sl).toNatClampNeg]? = some (.int (0 : Int32)) := Hs35.at hin35 (own_z _)
  have go36 : Go p e below s₁ F0 T32 (mkF m 112 #[vr a1, vr a2, vi (0 : Int32), vi hs, vi (31 : Int32), vi sl, .unset] [(.ref a1), (.ref a1)]) := by
    intro t_ k_
    refine go34 t_ ?_
    refine o_iaload X32 hx hZ e32 Ar35 hin35 hat35 (hb hby d4_58) ?_
    refine o_ifYes X32 hx (hb hby d4_59) (pc' := 110) rfl (by decide) ((if0 _ _).trans (teq (by decide : (0 : Int32) = (0 : Int32))).1) ?_
    refine o_aloadN X32 hx (hb hby d4_110) rfl rfl ?_
    refine o_dup X32 hx (hb hby d4_111) rfl ?_
    exact k_
  obtain ⟨T37, X37, e37, st37⟩ := getF X32 hx hZ hown (host := "") (Or.inl (own_w hw 36 rfl)) Via.refl e32 Fco (g := (mkF m 112 #[vr a1, vr a2, vi (0 : Int32), vi hs, vi (31 : Int32), vi sl, .unset] [(.ref a1), (.ref a1)])) rfl rfl (hb hby d4_112)
  have go38 : Go p e below s₁ F0 T37 (mkF m 115 #[vr a1, vr a2, vi (0 : Int32), vi hs, vi (31 : Int32), vi sl, .unset] [(.int (0 : Int32)), (.ref a1)]) := fun t_ k_ => go36 t_ (st37 t_ k_)
  have go39 : Go p e below s₁ F0 T37 (mkF m 118 #[vr a1, vr a2, vi (0 : Int32), vi hs, vi (31 : Int32), vi sl, .unset] [(.int (1 : Int32)), (.ref a1), (.int (0 : Int32))]) := by
    intro t_ k_
    refine go38 t_ ?_
    refine o_dupX1 X37 hx (hb hby d4_115) rfl rfl ?_
    refine o_iconst X37 hx (hb hby d4_116) (v := 1) rfl ?_
    refine o_iaddE X37 hx (hb hby d4_117) (v := 1) rfl ?_
    exact k_
  obtain ⟨T40, h40, X40, e40, W40, st40⟩ := putF X37 hx hZ hown (host := "") (Or.inl (own_w hw 36 rfl)) Via.refl e37 Fco E0 (Or.inl (own_w hw 37 rfl)) (own_w hw 2 rfl) (ty := .int) (by decide) rfl rfl (g := (mkF m 118 #[vr a1, vr a2, vi (0 : Int32), vi hs, vi (31 : Int32), vi sl, .unset] [(.int (1 : Int32)), (.ref a1), (.int (0 : Int32))])) rfl rfl (hb hby d4_118)
  have Fw40 : Fld Z h40 a1 c_0 "count" "I" (.int (1 : Int32)) := Fld.same W40 Fco
  have K41 : Keep h0 h40 [a1, bw, bh, bs] := K0.wr W40 (Or.inl (List.mem_of_getElem? (i := 0) rfl))
  have Z41 : n0 ≤ h40.size := Nat.le_trans Z0 (Keep.of_wr W40).1
  have N40 := Fr.snoc X40 N27 g1
  have go42 : Go p e below s₁ F0 T40 (mkF m 121 #[vr a1, vr a2, vi (0 : Int32), vi hs, vi (31 : Int32), vi sl, .unset] [(.int (0 : Int32))]) := fun t_ k_ => go39 t_ (st40 t_ k_)
  have F43 : Fld Z h40 a1 c_0 "hashes" "[I" (.ref bh) := (Fha.other W40 (Or.inr (slot_ne (Or.inl (own_w hw 16 rfl)) (Or.inl (own_w hw 37 rfl)) (by decide) (t := (.array .int)) (t' := .int) (by decide) (by decide))))
  have go44 : Go p e below s₁ F0 T40 (mkF m 126 #[vr a1, vr a2, vi (0 : Int32), vi hs, vi (31 : Int32), vi sl, vi (0 : Int32)] [(.ref a1), (.int (0 : Int32))]) := by
    intro t_ k_
    refine go42 t_ ?_
    refine o_istore X40 hx (hb hby d4_121) (L' := #[vr a1, vr a2, vi (0 : Int32), vi hs, vi (31 : Int32), vi sl, vi (0 : Int32)]) rfl ?_
    refine o_iload X40 hx (hb hby d4_123) rfl ?_
    refine o_aloadN X40 hx (hb hby d4_125) rfl rfl ?_
    exact k_
  obtain ⟨T45, X45, e45, st45⟩ := getF X40 hx hZ hown (host := "") (Or.inl (own_w hw 15 rfl)) Via.refl e40 F43 (g := (mkF m 126 #[vr a1, vr a2, vi (0 : Int32), vi hs, vi (31 : Int32), vi sl, vi (0 : Int32)] [(.ref a1), (.int (0 : Int32))])) rfl rfl (hb hby d4_126)
  have go46 : Go p e below s₁ F0 T45 (mkF m 129 #[vr a1, vr a2, vi (0 : Int32), vi hs, vi (31 : Int32), vi sl, vi (0 : Int32)] [(.ref bh), (.int (0 : Int32))]) := fun t_ k_ => go44 t_ (st45 t_ k_)
  have F47 : Arv Z h40 bh kh .int (16 : Int32) (own_zi 16) (.int (0 : Int32)) := (Vh.other W40 (Ne.symm nah))
  obtain ⟨cl48, Ar48, -, Sz48, Nn48, -, -⟩ := id F47
  have F49 : Fld Z h40 a1 c_0 "words" "[J" (.ref bw) := (Fwo.other W40 (Or.inr (slot_ne (Or.inl (own_w hw 13 rfl)) (Or.inl (own_w hw 37 rfl)) (by decide) (t := (.array .long)) (t' := .int) (by decide) (by decide))))
  have go50 : Go p e below s₁ F0 T45 (mkF m 171 #[vr a1, vr a2, vi (0 : Int32), vi hs, vi (31 : Int32), vi sl, vi (0 : Int32)] [(.ref a1), (.int (0 : Int32)), (.ref a2)]) := by
    intro t_ k_
    refine go46 t_ ?_
    refine o_len X45 hx hZ e45 Ar48 Sz48 Nn48 (hb hby d4_129) ?_
    refine o_icmpYes X45 hx (hb hby d4_130) (pc' := 168) rfl (by decide) (feq (by decide : ¬ ((0 : Int32) = (16 : Int32)))).2 ?_
    refine o_aloadN X45 hx (hb hby d4_168) rfl rfl ?_
    refine o_iloadN X45 hx (hb hby d4_169) rfl ?_
    refine o_aloadN X45 hx (hb hby d4_170) rfl rfl ?_
    exact k_
  obtain ⟨T51, X51, e51, st51⟩ := getF X45 hx hZ hown (host := "") (Or.inl (own_w hw 12 rfl)) Via.refl e45 F49 (g := (mkF m 171 #[vr a1, vr a2, vi (0 : Int32), vi hs, vi (31 : Int32), vi sl, vi (0 : Int32)] [(.ref a1), (.int (0 : Int32)), (.ref a2)])) rfl rfl (hb hby d4_171)
  have go52 : Go p e below s₁ F0 T51 (mkF m 174 #[vr a1, vr a2, vi (0 : Int32), vi hs, vi (31 : Int32), vi sl, vi (0 : Int32)] [(.ref bw), (.int (0 : Int32)), (.ref a2)]) := fun t_ k_ => go50 t_ (st51 t_ k_)
  have F53 : Fld Z h40 a1 c_0 "width" "I" (.int (2 : Int32)) := (Fwi.other W40 (Or.inr (slot_ne (Or.inr (own_w hw 11 rfl)) (Or.inl (own_w hw 37 rfl)) (by decide) (t := .int) (t' := .int) (by decide) (by decide))))
  have go54 : Go p e below s₁ F0 T51 (mkF m 177 #[vr a1, vr a2, vi (0 : Int32), vi hs, vi (31 : Int32), vi sl, vi (0 : Int32)] [(.ref a1), (.int (0 : Int32)), (.ref bw), (.int (0 : Int32)), (.ref a2)]) := by
    intro t_ k_
    refine go52 t_ ?_
    refine o_iload X51 hx (hb hby d4_174) rfl ?_
    refine o_aloadN X51 hx (hb hby d4_176) rfl rfl ?_
    exact k_
  obtain ⟨T55, X55, e55, st55⟩ := getF X51 hx hZ hown (host := "") (Or.inl (own_w hw 10 rfl)) Via.refl e51 F53 (g := (mkF m 177 #[vr a1, vr a2, vi (0 : Int32), vi hs, vi (31 : Int32), vi sl, vi (0 : Int32)] [(.ref a1), (.int (0 : Int32)), (.ref bw), (.int (0 : Int32)), (.ref a2)])) rfl rfl (hb hby d4_177)
  have go56 : Go p e below s₁ F0 T55 (mkF m 180 #[vr a1, vr a2, vi (0 : Int32), vi hs, vi (31 : Int32), vi sl, vi (0 : Int32)] [(.int (2 : Int32)), (.int (0 : Int32)), (.ref bw), (.int (0 : Int32)), (.ref a2)]) := fun t_ k_ => go54 t_ (st55 t_ k_)
  have go57 : Go p e below s₁ F0 T55 (mkF m 182 #[vr a1, vr a2, vi (0 : Int32), vi hs, vi (31 : Int32), vi sl, vi (0 : Int32)] [(.ref a1), (.int (0 : Int32)), (.ref bw), (.int (0 : Int32)), (.ref a2)]) := by
    intro t_ k_
    refine go56 t_ ?_
    refine o_imulE X55 hx (hb hby d4_180) (v := 0) rfl ?_
    refine o_aloadN X55 hx (hb hby d4_181) rfl rfl ?_
    exact k_
  obtain ⟨T58, X58, e58, st58⟩ := getF X55 hx hZ hown (host := "") (Or.inl (own_w hw 10 rfl)) Via.refl e55 F53 (g := (mkF m 182 #[vr a1, vr a2, vi (0 : Int32), vi hs, vi (31 : Int32), vi sl, vi (0 : Int32)] [(.ref a1), (.int (0 : Int32)), (.ref bw), (.int (0 : Int32)), (.ref a2)])) rfl rfl (hb hby d4_182)
  have go59 : Go p e below s₁ F0 T58 (mkF m 185 #[vr a1, vr a2, vi (0 : Int32), vi hs, vi (31 : Int32), vi sl, vi (0 : Int32)] [(.int (2 : Int32)), (.int (0 : Int32)), (.ref bw), (.int (0 : Int32)), (.ref a2)]) := fun t_ k_ => go57 t_ (st58 t_ k_)
  have F60 : Arv Z h40 a2 k2 .long (2 : Int32) [(.long x0), (.long x1)] (.long (0 : Int64)) := (V2.other W40 (Ne.symm n12))
  have F61 : Arv Z h40 bw kw .long (32 : Int32) (own_zl 32) (.long (0 : Int64)) := (Vw.other W40 (Ne.symm naw))
  obtain ⟨T62, h62, L62, X62, e62, N62, Kc62, Vc62, st62⟩ := cpA X58 hx hZ hown (own_w hw 38 rfl) (own_w hw 41 rfl) (own_w hw 39 rfl) (own_w hw 40 rfl) e58 F60 F61 (Or.inl ⟨rfl, rfl⟩) (by decide) (by decide) (by decide) (by decide) (by decide) (us := [(.long x0), (.long x1)]) rfl (Nat.le_of_ble_eq_true rfl) N40 gw (g := (mkF m 185 #[vr a1, vr a2, vi (0 : Int32), vi hs, vi (31 : Int32), vi sl, vi (0 : Int32)] [(.int (2 : Int32)), (.int (0 : Int32)), (.ref bw), (.int (0 : Int32)), (.ref a2)])) rfl (by rw [hml]; rfl) rfl (hb hby d4_185) (by decide) (W := 0) (by show 2 * 0 + _ ≤ _; exact Nat.le_of_eq rfl) (by decide)
  have V62 : Arv Z h62 bw kw .long (32 : Int32) ((.long x0) :: (.long x1) :: own_zl 30) (.long (0 : Int64)) := Vc62
  have K63 : Keep h0 h62 [a1, bw, bh, bs] := K41.trans Kc62 (allS (Or.inl (List.mem_of_getElem? (i := 1) rfl)) all0)
  have Z63 : n0 ≤ h62.size := Nat.le_trans Z41 Kc62.1
  have go64 : Go p e below s₁ F0 T62 (mkF m 188 #[vr a1, vr a2, vi (0 : Int32), vi hs, vi (31 : Int32), vi sl, vi (0 : Int32)] []) := fun t_ k_ => go59 t_ (st62 t_ k_)
  have F65 : Fld Z h62 a1 c_0 "hashes" "[I" (.ref bh) := (F43.keep Kc62 (ninS naw nin0))
  have go66 : Go p e below s₁ F0 T62 (mkF m 189 #[vr a1, vr a2, vi (0 : Int32), vi hs, vi (31 : Int32), vi sl, vi (0 : Int32)] [(.ref a1)]) := by
    intro t_ k_
    refine go64 t_ ?_
    refine o_aloadN X62 hx (hb hby d4_188) rfl rfl ?_
    exact k_
  obtain ⟨T67, X67, e67, st67⟩ := getF X62 hx hZ hown (host := "") (Or.inl (own_w hw 15 rfl)) Via.refl e62 F65 (g := (mkF m 189 #[vr a1, vr a2, vi (0 : Int32), vi hs, vi (31 : Int32), vi sl, vi (0 : Int32)] [(.ref a1)])) rfl rfl (hb hby d4_189)
  have go68 : Go p e below s₁ F0 T67 (mkF m 192 #[vr a1, vr a2, vi (0 : Int32), vi hs, vi (31 : Int32), vi sl, vi (0 : Int32)] [(.ref bh)]) := fun t_ k_ => go66 t_ (st67 t_ k_)
  have F69 : Arv Z h62 bh kh .int (16 : Int32) (own_zi 16) (.int (0 : Int32)) := (F47.keep Kc62 (ninS (Ne.symm nwh) nin0))
  have go70 : Go p e below s₁ F0 T67 (mkF m 195 #[vr a1, vr a2, vi (0 : Int32), vi hs, vi (31 : Int32), vi sl, vi (0 : Int32)] [(.int hs), (.int (0 : Int32)), (.ref bh)]) := by
    intro t_ k_
    refine go68 t_ ?_
    refine o_iload X67 hx (hb hby d4_192) rfl ?_
    refine o_iloadN X67 hx (hb hby d4_194) rfl ?_
    exact k_
  obtain ⟨cl71, Ar71, q71, Sz71, Nn71, Hs71, G71⟩ := id F69
  have hin71 : ¬ ((0 : Int32) < 0 ∨ cl71.slots.size ≤ ((0 : Int32)).toNatClampNeg) := inb_of Sz71 ⟨by decide, by decide⟩
  obtain ⟨T71, h71, X71, e71, W71, st71⟩ := stI X67 hx hZ e67 Ar71 (j := (0 : Int32)) hin71 (g := (mkF m 195 #[vr a1, vr a2, vi (0 : Int32), vi hs, vi (31 : Int32), vi sl, vi (0 : Int32)] [(.int hs), (.int (0 : Int32)), (.ref bh)])) rfl rfl (hb hby d4_195)
  have V71 : Arv Z h71 bh kh .int (16 : Int32) ((.int hs) :: own_zi 15) (.int (0 : Int32)) := Arv.set Ar71 q71 Sz71 Nn71 Hs71 G71 rfl W71 0 rfl (Nat.le_of_ble_eq_true rfl)
  have K72 : Keep h0 h71 [a1, bw, bh, bs] := K63.wr W71 (Or.inl (List.mem_of_getElem? (i := 2) rfl))
  have Z72 : n0 ≤ h71.size := Nat.le_trans Z63 (Keep.of_wr W71).1
  have N71 := Fr.snoc X71 N62 gh
  have go73 : Go p e below s₁ F0 T71 (mkF m 196 #[vr a1, vr a2, vi (0 : Int32), vi hs, vi (31 : Int32), vi sl, vi (0 : Int32)] []) := fun t_ k_ => go70 t_ (st71 t_ k_)
  have F74 : Fld Z h71 a1 c_0 "slots" "[I" (.ref bs) := (((Fsl.other W40 (Or.inr (slot_ne (Or.inl (own_w hw 18 rfl)) (Or.inl (own_w hw 37 rfl)) (by decide) (t := (.array .int)) (t' := .int) (by decide) (by decide)))).keep Kc62 (ninS naw nin0)).other W71 (Or.inl nah))
  have go75 : Go p e below s₁ F0 T71 (mkF m 197 #[vr a1, vr a2, vi (0 : Int32), vi hs, vi (31 : Int32), vi sl, vi (0 : Int32)] [(.ref a1)]) := by
    intro t_ k_
    refine go73 t_ ?_
    refine o_aloadN X71 hx (hb hby d4_196) rfl rfl ?_
    exact k_
  obtain ⟨T76, X76, e76, st76⟩ := getF X71 hx hZ hown (host := "") (Or.inl (own_w hw 17 rfl)) Via.refl e71 F74 (g := (mkF m 197 #[vr a1, vr a2, vi (0 : Int32), vi hs, vi (31 : Int32), vi sl, vi (0 : Int32)] [(.ref a1)])) rfl rfl (hb hby d4_197)
  have go77 : Go p e below s₁ F0 T76 (mkF m 200 #[vr a1, vr a2, vi (0 : Int32), vi hs, vi (31 : Int32), vi sl, vi (0 : Int32)] [(.ref bs)]) := fun t_ k_ => go75 t_ (st76 t_ k_)
  have F78 : Arv Z h71 bs ks .int (32 : Int32) (own_zi 32) (.int (0 : Int32)) := (((Vs.other W40 (Ne.symm nas)).keep Kc62 (ninS (Ne.symm nws) nin0)).other W71 (Ne.symm nhs))
  have go79 : Go p e below s₁ F0 T76 (mkF m 206 #[vr a1, vr a2, vi (0 : Int32), vi hs, vi (31 : Int32), vi sl, vi (0 : Int32)] [(.int (1 : Int32)), (.int sl), (.ref bs)]) := by
    intro t_ k_
    refine go77 t_ ?_
    refine o_iload X76 hx (hb hby d4_200) rfl ?_
    refine o_iload X76 hx (hb hby d4_202) rfl ?_
    refine o_iconst X76 hx (hb hby d4_204) (v := 1) rfl ?_
    refine o_iaddE X76 hx (hb hby d4_205) (v := 1) rfl ?_
    exact k_
  obtain ⟨cl80, Ar80, q80, Sz80, Nn80, Hs80, G80⟩ := id F78
  have hin80 : ¬ (sl < 0 ∨ cl80.slots.size ≤ (sl).toNatClampNeg) := inb_of Sz80 (own_in h_sl)
  obtain ⟨T80, h80, X80, e80, W80, st80⟩ := stI X76 hx hZ e76 Ar80 (j := sl) hin80 (g := (mkF m 206 #[vr a1, vr a2, vi (0 : Int32), vi hs, vi (31 : Int32), vi sl, vi (0 : Int32)] [(.int (1 : Int32)), (.int sl), (.ref bs)])) rfl rfl (hb hby d4_206)
  have V80 : Arv Z h80 bs ks .int (32 : Int32) (own_sl sl) (.int (0 : Int32)) := Arv.set Ar80 q80 Sz80 Nn80 Hs80 G80 rfl W80 sl.toNatClampNeg rfl (own_lz h_sl)
  have K81 : Keep h0 h80 [a1, bw, bh, bs] := K72.wr W80 (Or.inl (List.mem_of_getElem? (i := 3) rfl))
  have Z81 : n0 ≤ h80.size := Nat.le_trans Z72 (Keep.of_wr W80).1
  have N80 := Fr.snoc X80 N71 gs
  have go82 : Go p e below s₁ F0 T80 (mkF m 207 #[vr a1, vr a2, vi (0 : Int32), vi hs, vi (31 : Int32), vi sl, vi (0 : Int32)] []) := fun t_ k_ => go79 t_ (st80 t_ k_)
  have F83 : Fld Z h80 a1 c_0 "count" "I" (.int (1 : Int32)) := (((Fw40.keep Kc62 (ninS naw nin0)).other W71 (Or.inl nah)).other W80 (Or.inl nas))
  have go84 : Go p e below s₁ F0 T80 (mkF m 209 #[vr a1, vr a2, vi (0 : Int32), vi hs, vi (31 : Int32), vi sl, vi (0 : Int32)] [(.ref a1), (.int (2 : Int32))]) := by
    intro t_ k_
    refine go82 t_ ?_
    refine o_iconst X80 hx (hb hby d4_207) (v := 2) rfl ?_
    refine o_aloadN X80 hx (hb hby d4_208) rfl rfl ?_
    exact k_
  obtain ⟨T85, X85, e85, st85⟩ := getF X80 hx hZ hown (host := "") (Or.inl (own_w hw 36 rfl)) Via.refl e80 F83 (g := (mkF m 209 #[vr a1, vr a2, vi (0 : Int32), vi hs, vi (31 : Int32), vi sl, vi (0 : Int32)] [(.ref a1), (.int (2 : Int32))])) rfl rfl (hb hby d4_209)
  have go86 : Go p e below s₁ F0 T85 (mkF m 212 #[vr a1, vr a2, vi (0 : Int32), vi hs, vi (31 : Int32), vi sl, vi (0 : Int32)] [(.int (1 : Int32)), (.int (2 : Int32))]) := fun t_ k_ => go84 t_ (st85 t_ k_)
  have F87 : Fld Z h80 a1 c_0 "slots" "[I" (.ref bs) := (F74.other W80 (Or.inl nas))
  have go88 : Go p e below s₁ F0 T85 (mkF m 214 #[vr a1, vr a2, vi (0 : Int32), vi hs, vi (31 : Int32), vi sl, vi (0 : Int32)] [(.ref a1), (.int (2 : Int32))]) := by
    intro t_ k_
    refine go86 t_ ?_
    refine o_imulE X85 hx (hb hby d4_212) (v := 2) rfl ?_
    refine o_aloadN X85 hx (hb hby d4_213) rfl rfl ?_
    exact k_
  obtain ⟨T89, X89, e89, st89⟩ := getF X85 hx hZ hown (host := "") (Or.inl (own_w hw 17 rfl)) Via.refl e85 F87 (g := (mkF m 214 #[vr a1, vr a2, vi (0 : Int32), vi hs, vi (31 : Int32), vi sl, vi (0 : Int32)] [(.ref a1), (.int (2 : Int32))])) rfl rfl (hb hby d4_214)
  have go90 : Go p e below s₁ F0 T89 (mkF m 217 #[vr a1, vr a2, vi (0 : Int32), vi hs, vi (31 : Int32), vi sl, vi (0 : Int32)] [(.ref bs), (.int (2 : Int32))]) := fun t_ k_ => go88 t_ (st89 t_ k_)
  obtain ⟨cl91, Ar91, -, Sz91, Nn91, -, -⟩ := id V80
  have go92 : Go p e below s₁ F0 T89 (mkF m 227 #[vr a1, vr a2, vi (0 : Int32), vi hs, vi (31 : Int32), vi sl, vi (0 : Int32)] [(.int (0 : Int32))]) := by
    intro t_ k_
    refine go90 t_ ?_
    refine o_len X89 hx hZ e89 Ar91 Sz91 Nn91 (hb hby d4_217) ?_
    refine o_icmpYes X89 hx (hb hby d4_218) (pc' := 225) rfl (by decide) (flt (by decide : ¬ ((32 : Int32) < (2 : Int32)))).2.2.2 ?_
    refine o_iload X89 hx (hb hby d4_225) rfl ?_
    exact k_
  obtain ⟨fs, hr, hrun, hended, hW, hsame⟩ := X89.leave (v := some (.int (0 : Int32))) (fun h => by rw [Bd.returns] at h; cases h)
  refine ⟨_, _, pre0 _ (go92 _ ?_), hrun, hended, _, _, rfl, ?_, ⟨_, rfl⟩, hW, hsame.mono (by decide) (by decide)⟩
  · skip
    exact retI X89 hx Bd.returns (hb hby d4_227) hr
  · show Q4_a2 Z a1 a2 bw bh bs kw kh ks k2 x0 x1 h0 n0 _ T89.heap _
    rw [e89]
    have F93 : Fld Z h80 a1 c_0 "width" "I" (.int (2 : Int32)) := (((F53.keep Kc62 (ninS naw nin0)).other W71 (Or.inl nah)).other W80 (Or.inl nas))
    have F94 : Fld Z h80 a1 c_0 "words" "[J" (.ref bw) := (((F49.keep Kc62 (ninS naw nin0)).other W71 (Or.inl nah)).other W80 (Or.inl nas))
    have F95 : Fld Z h80 a1 c_0 "hashes" "[I" (.ref bh) := ((F65.other W71 (Or.inl nah)).other W80 (Or.inl nas))
    have F96 : Arv Z h80 bw kw .long (32 : Int32) ((.long x0) :: (.long x1) :: own_zl 30) (.long (0 : Int64)) := ((V62.other W71 nwh).other W80 nws)
    have F97 : Arv Z h80 bh kh .int (16 : Int32) ((.int hs) :: own_zi 15) (.int (0 : Int32)) := (V71.other W80 nhs)
    exact ⟨hs, sl, rfl, N80, K81, F93, F94, F95, F87, F83, F96, F97, V80, h_hs, h_sl⟩

theorem d3_0 : decode prog_63_method_4_code 0 = .ok (.aload_n 0, 1) := by decide +kernel
theorem d3_1 : decode prog_63_method_4_code 1 = .ok (.aload_n 1, 1) := by decide +kernel
theorem d3_2 : decode prog_63_method_4_code 2 = .ok (.iconst 0, 1) := by decide +kernel
theorem d3_3 : decode prog_63_method_4_code 3 = .ok (.invokevirtual 27, 3) := by decide +kernel
theorem d3_6 : decode prog_63_method_4_code 6 = .ok (.ireturn, 1) := by decide +kernel
theorem pn_3_a2 : plainName "com/example/grammar_game_solver/grammargamesolver/summary/NumberedSets" = true := by first | (simp [plainName, overriddenIn]; done) | decide +kernel
theorem pd3_a2_0 : parseMethodDescriptor "([JI)I" = some ⟨[(.array .long), .int], some .int⟩ := by decide +kernel
theorem ef_3_a2 (m : MethodId) (x0 : Addr) (x1 : Addr) : entryFrame m #[(.ref x0), (.ref x1)] 2 = mkF m 0 #[vr x0, vr x1] [] := by first | (simp [entryFrame, mkF, argsToLocals, Value.category]; done) | rfl
def Q3_a2 (Z : State) (a1 : Addr) (a2 : Addr) (bw : Addr) (bh : Addr) (bs : Addr) (kw : ClassId) (kh : ClassId) (ks : ClassId) (k2 : ClassId) (x0 : Int64) (x1 : Int64) (h0 : Heap) (n0 : Nat) (v : Option Value) (h : Heap) (L : List Loc) : Prop := ∃ hs : Int32, ∃ sl : Int32, v = some (.int (0 : Int32)) ∧ Fr n0 L ∧ Keep h0 h [a1, bw, bh, bs] ∧ Fld Z h a1 c_0 "width" "I" (.int (2 : Int32)) ∧ Fld Z h a1 c_0 "words" "[J" (.ref bw) ∧ Fld Z h a1 c_0 "hashes" "[I" (.ref bh) ∧ Fld Z h a1 c_0 "slots" "[I" (.ref bs) ∧ Fld Z h a1 c_0 "count" "I" (.int (1 : Int32)) ∧ Arv Z h bw kw .long (32 : Int32) ((.long x0) :: (.long x1) :: own_zl 30) (.long (0 : Int64)) ∧ Arv Z h bh kh .int (16 : Int32) ((.int hs) :: own_zi 15) (.int (0 : Int32)) ∧ Arv Z h bs ks .int (32 : Int32) (own_sl sl) (.int (0 : Int32)) ∧ (hs = (((31 : Int32) * ((31 : Int32) + (f5 x0))) + (f5 x1))) ∧ (sl = (f6 hs (31 : Int32)))
set_option maxRecDepth 65536 in
set_option maxHeartbeats 40000000 in
theorem rm3_a2 (l : Launch) (Z : State) (a0 : Array Value) (hw : ∀ d ∈ tables_1, d.before a0 Z = true) (ws : List Jvm.Cond) (a1 : Addr) (a2 : Addr) (bw : Addr) (bh : Addr) (bs : Addr) (kw : ClassId) (kh : ClassId) (ks : ClassId) (k2 : ClassId) (x0 : Int64) (x1 : Int64) (h0 : Heap) (n0 : Nat) (Z0 : n0 ≤ h0.size) (E0 : Exa Z h0 a1 c_0) (Fwi : Fld Z h0 a1 c_0 "width" "I" (.int (2 : Int32))) (Fwo : Fld Z h0 a1 c_0 "words" "[J" (.ref bw)) (Fha : Fld Z h0 a1 c_0 "hashes" "[I" (.ref bh)) (Fsl : Fld Z h0 a1 c_0 "slots" "[I" (.ref bs)) (Fco : Fld Z h0 a1 c_0 "count" "I" (.int (0 : Int32))) (Vw : Arv Z h0 bw kw .long (32 : Int32) (own_zl 32) (.long (0 : Int64))) (Vh : Arv Z h0 bh kh .int (16 : Int32) (own_zi 16) (.int (0 : Int32))) (Vs : Arv Z h0 bs ks .int (32 : Int32) (own_zi 32) (.int (0 : Int32))) (V2 : Arv Z h0 a2 k2 .long (2 : Int32) [(.long x0), (.long x1)] (.long (0 : Int64))) (g1 : n0 ≤ a1) (gw : n0 ≤ bw) (gh : n0 ≤ bh) (gs : n0 ≤ bs) (naw : a1 ≠ bw) (nah : a1 ≠ bh) (nas : a1 ≠ bs) (n2w : a2 ≠ bw) (n2h : a2 ≠ bh) (n2s : a2 ≠ bs) (n12 : a1 ≠ a2) (nwh : bw ≠ bh) (nws : bw ≠ bs) (nhs : bh ≠ bs) :
    MetFree l y_4 (head1 (Jvm.Cond.code y_4 prog_63_method_4_code 2 (some .int) :: ws) ({ frames := 2, cells := 0, slots := 0, locals := 36 } : Room)) (fun a U => a = #[(.ref a1), (.ref a2)] ∧ Z.Warmed39 U.vm ∧ U.heap = h0) (fun _ _ _ _ _ => True) (fun _ U o U' => ∃ v L, o = .returned v ∧ Q3_a2 Z a1 a2 bw bh bs kw kh ks k2 x0 x1 h0 n0 v U'.heap L ∧ FrameEnd U o U' L ({ frames := 2, cells := 0, slots := 0, locals := 36 } : Room).cells ({ frames := 2, cells := 0, slots := 0, locals := 36 } : Room).slots) := by
  refine MetFree.of_bodySF (plainFor_of_name pn_3_a2) hisR ?_
  intro p e s m args below meth c s₁ Bd hml0 hP hK
  obtain ⟨rfl, hZ, hh⟩ := hP
  have hx := Bd.exec
  have hby := Bd.bytes
  have hml : c.maxLocals = 2 := hml0
  have hown : s.vm.findClass "com/example/grammar_game_solver/grammargamesolver/summary/NumberedSets" = some m.cls := findClass_of_methodNamed Bd.named
  have hnm := (name_of_methodNamed Bd.named Bd.method).1
  have X0 : Stand p l e ({ frames := 2, cells := 0, slots := 0, locals := 36 } : Room) s m #[(.ref a1), (.ref a2)] below meth c s₁ [] 0 0 := Stand.of_body Bd
  have e0 : s₁.heap = h0 := by rw [← hh, Bd.state]; rfl
  have N0 := Fr.nil n0
  have K0 : Keep h0 h0 [a1, bw, bh, bs] := Keep.refl h0 [a1, bw, bh, bs]
  obtain ⟨F0, hF0⟩ : ∃ F : JFrame, F = entryFrame m #[(.ref a1), (.ref a2)] 2 := ⟨_, rfl⟩
  have pre0 : ∀ t, Steps p.tables e below (s₁.setTop F0) t → Steps p.tables e below (s₁.setTop (entryFrame m #[(.ref a1), (.ref a2)] 2)) t := fun t k => hF0 ▸ k
  have go0 : Go p e below s₁ F0 s₁ (mkF m 0 #[vr a1, vr a2] []) := fun t k => castTop (hF0.trans (ef_3_a2 m a1 a2)) k
  have go1 : Go p e below s₁ F0 s₁ (mkF m 3 #[vr a1, vr a2] [(.int (0 : Int32)), (.ref a2), (.ref a1)]) := by
    intro t_ k_
    refine go0 t_ ?_
    refine o_aloadN X0 hx (hb hby d3_0) rfl rfl ?_
    refine o_aloadN X0 hx (hb hby d3_1) rfl rfl ?_
    refine o_iconst X0 hx (hb hby d3_2) (v := 0) rfl ?_
    exact k_
  obtain ⟨cq2, q2, q2'⟩ := E0.cell
  obtain ⟨_, _, ⟨T2, L2, k2, n2⟩, -, X2, ⟨Lc2, hQ2, l2, y2, z2⟩, st2⟩ := X0.privateBack hx (y := y_3) hown (mvT hZ (own_w hw 24 rfl)) (mvT hZ (own_w hw 25 rfl)) (own_selp (mvT hZ (own_w hw 2 rfl)) (mvP hZ (own_w hw 26 rfl)) (mvT hZ (own_w hw 25 rfl)) (by decide)) (Cond.privateMethod_at (mvP hZ (own_w hw 26 rfl) (args := #[]))) (mvT hZ (own_w hw 27 rfl)) (by decide) (backOf (W := 0) (rm4_a2 l Z a0 hw [] a1 a2 bw bh bs kw kh ks k2 x0 x1 h0 n0 Z0 E0 Fwi Fwo Fha Fsl Fco Vw Vh Vs V2 g1 gw gh gs naw nah nas n2w n2h n2s n12 nwh nws nhs) hZ (own_w hw 27 rfl) (own_w hw 3 rfl) (by decide) (by decide)) (g := (mkF m 3 #[vr a1, vr a2] [(.int (0 : Int32)), (.ref a2), (.ref a1)])) rfl (by rw [hml]; rfl) (Steps.refl _) (a := a1) (by rw [e0]; exact q2) q2' (argsL := [(.ref a2), (.int (0 : Int32))]) (rest := []) (lenOf pd3_a2_0 rfl) rfl (by show 2 * 0 + _ ≤ _; exact Nat.le_of_eq rfl) (hb hby d3_3) (fun _ _ => ⟨rfl, e0, (by decide : 0 + 0 ≤ _), (by decide : 0 + 0 ≤ _)⟩)
  dsimp only [Pt.U, Pt.locs, Pt.cells, Pt.slots] at X2 l2 y2 z2 st2 hQ2
  subst l2 y2 z2
  obtain ⟨hs_2, sl_2, rfl, Nq2, Kc2, Fwi_2, Fwo_2, Fha_2, Fsl_2, Fco_2, Vw_2, Vh_2, Vs_2, hhs_2, hsl_2⟩ := hQ2
  have N2 := Fr.app N0 Nq2
  have K3 : Keep h0 T2.heap [a1, bw, bh, bs] := K0.trans Kc2 (allS (Or.inl (List.mem_of_getElem? (i := 0) rfl)) (allS (Or.inl (List.mem_of_getElem? (i := 1) rfl)) (allS (Or.inl (List.mem_of_getElem? (i := 2) rfl)) (allS (Or.inl (List.mem_of_getElem? (i := 3) rfl)) all0))))
  have Z3 : n0 ≤ T2.heap.size := Nat.le_trans Z0 Kc2.1
  have go4 : Go p e below s₁ F0 T2 (mkF m 6 #[vr a1, vr a2] [(.int (0 : Int32))]) := fun t_ k_ => go1 t_ (st2.trans k_)
  obtain ⟨fs, hr, hrun, hended, hW, hsame⟩ := X2.leave (v := some (.int (0 : Int32))) (fun h => by rw [Bd.returns] at h; cases h)
  refine ⟨_, _, pre0 _ (go4 _ ?_), hrun, hended, _, _, rfl, ?_, ⟨_, rfl⟩, hW, hsame.mono (by decide) (by decide)⟩
  · skip
    exact retI X2 hx Bd.returns (hb hby d3_6) hr
  · show Q3_a2 Z a1 a2 bw bh bs kw kh ks k2 x0 x1 h0 n0 _ T2.heap _
    exact ⟨hs_2, sl_2, rfl, N2, K3, Fwi_2, Fwo_2, Fha_2, Fsl_2, Fco_2, Vw_2, Vh_2, Vs_2, (by first | assumption | decide | omega), (by first | assumption | decide | omega)⟩

theorem d7_0 : decode prog_63_method_10_code 0 = .ok (.iload_n 1, 1) := by decide +kernel
theorem d7_1 : decode prog_63_method_10_code 1 = .ok (.aload_n 0, 1) := by decide +kernel
theorem d7_2 : decode prog_63_method_10_code 2 = .ok (.getfield 7, 3) := by decide +kernel
theorem d7_5 : decode prog_63_method_10_code 5 = .ok (.imul, 1) := by decide +kernel
theorem d7_6 : decode prog_63_method_10_code 6 = .ok (.istore 4, 2) := by decide +kernel
theorem d7_8 : decode prog_63_method_10_code 8 = .ok (.iconst 0, 1) := by decide +kernel
theorem d7_9 : decode prog_63_method_10_code 9 = .ok (.istore 5, 2) := by decide +kernel
theorem d7_11 : decode prog_63_method_10_code 11 = .ok (.iload 5, 2) := by decide +kernel
theorem d7_13 : decode prog_63_method_10_code 13 = .ok (.aload_n 0, 1) := by decide +kernel
theorem d7_14 : decode prog_63_method_10_code 14 = .ok (.getfield 7, 3) := by decide +kernel
theorem d7_17 : decode prog_63_method_10_code 17 = .ok (.if_icmp .ge 31, 3) := by decide +kernel
theorem d7_20 : decode prog_63_method_10_code 20 = .ok (.aload_n 0, 1) := by decide +kernel
theorem d7_21 : decode prog_63_method_10_code 21 = .ok (.getfield 13, 3) := by decide +kernel
theorem d7_24 : decode prog_63_method_10_code 24 = .ok (.iload 4, 2) := by decide +kernel
theorem d7_26 : decode prog_63_method_10_code 26 = .ok (.iload 5, 2) := by decide +kernel
theorem d7_28 : decode prog_63_method_10_code 28 = .ok (.iadd, 1) := by decide +kernel
theorem d7_29 : decode prog_63_method_10_code 29 = .ok (.laload, 1) := by decide +kernel
theorem d7_30 : decode prog_63_method_10_code 30 = .ok (.aload_n 2, 1) := by decide +kernel
theorem d7_31 : decode prog_63_method_10_code 31 = .ok (.iload_n 3, 1) := by decide +kernel
theorem d7_32 : decode prog_63_method_10_code 32 = .ok (.iload 5, 2) := by decide +kernel
theorem d7_34 : decode prog_63_method_10_code 34 = .ok (.iadd, 1) := by decide +kernel
theorem d7_35 : decode prog_63_method_10_code 35 = .ok (.laload, 1) := by decide +kernel
theorem d7_36 : decode prog_63_method_10_code 36 = .ok (.lcmp, 1) := by decide +kernel
theorem d7_37 : decode prog_63_method_10_code 37 = .ok (.ifCond .eq 5, 3) := by decide +kernel
theorem d7_40 : decode prog_63_method_10_code 40 = .ok (.iconst 0, 1) := by decide +kernel
theorem d7_41 : decode prog_63_method_10_code 41 = .ok (.ireturn, 1) := by decide +kernel
theorem d7_42 : decode prog_63_method_10_code 42 = .ok (.iinc 5 1, 3) := by decide +kernel
theorem d7_45 : decode prog_63_method_10_code 45 = .ok (.goto (-34), 3) := by decide +kernel
theorem d7_48 : decode prog_63_method_10_code 48 = .ok (.iconst 1, 1) := by decide +kernel
theorem d7_49 : decode prog_63_method_10_code 49 = .ok (.ireturn, 1) := by decide +kernel
theorem pn_7_2 : plainName "com/example/grammar_game_solver/grammargamesolver/summary/NumberedSets" = true := by first | (simp [plainName, overriddenIn]; done) | decide +kernel
theorem ef_7_2 (m : MethodId) (x0 : Addr) (x2 : Addr) : entryFrame m #[(.ref x0), (.int (0 : Int32)), (.ref x2), (.int (0 : Int32))] 6 = mkF m 0 #[vr x0, vi (0 : Int32), vr x2, vi (0 : Int32), .unset, .unset] [] := by first | (simp [entryFrame, mkF, argsToLocals, Value.category]; done) | rfl
def f7_2 (x0 : Int64) (x1 : Int64) (y0 : Int64) (y1 : Int64) : Int32 := (if x0 = y0 then (if x1 = y1 then (1 : Int32) else (0 : Int32)) else (0 : Int32))
def Q7_2 (Z : State) (a1 : Addr) (a3 : Addr) (bw : Addr) (kw : ClassId) (k2 : ClassId) (x0 : Int64) (x1 : Int64) (y0 : Int64) (y1 : Int64) (h0 : Heap) (n0 : Nat) (v : Option Value) (h : Heap) (L : List Loc) : Prop := v = some (.int (f7_2 x0 x1 y0 y1)) ∧ Fr n0 L ∧ h = h0
set_option maxRecDepth 65536 in
set_option maxHeartbeats 40000000 in
theorem rm7_2 (l : Launch) (Z : State) (a0 : Array Value) (hw : ∀ d ∈ tables_1, d.before a0 Z = true) (ws : List Jvm.Cond) (a1 : Addr) (a3 : Addr) (bw : Addr) (kw : ClassId) (k2 : ClassId) (x0 : Int64) (x1 : Int64) (y0 : Int64) (y1 : Int64) (h0 : Heap) (n0 : Nat) (Z0 : n0 ≤ h0.size) (Fwi : Fld Z h0 a1 c_0 "width" "I" (.int (2 : Int32))) (Fwo : Fld Z h0 a1 c_0 "words" "[J" (.ref bw)) (Vw : Arv Z h0 bw kw .long (32 : Int32) ((.long x0) :: (.long x1) :: own_zl 30) (.long (0 : Int64))) (V3 : Arv Z h0 a3 k2 .long (2 : Int32) [(.long y0), (.long y1)] (.long (0 : Int64))) :
    MetFree l y_5 (head1 (Jvm.Cond.code y_5 prog_63_method_10_code 6 (some .boolean) :: ws) ({ frames := 0, cells := 0, slots := 0, locals := 0 } : Room)) (fun a U => a = #[(.ref a1), (.int (0 : Int32)), (.ref a3), (.int (0 : Int32))] ∧ Z.Warmed39 U.vm ∧ U.heap = h0) (fun _ _ _ _ _ => True) (fun _ U o U' => ∃ v L, o = .returned v ∧ Q7_2 Z a1 a3 bw kw k2 x0 x1 y0 y1 h0 n0 v U'.heap L ∧ FrameEnd U o U' L ({ frames := 0, cells := 0, slots := 0, locals := 0 } : Room).cells ({ frames := 0, cells := 0, slots := 0, locals := 0 } : Room).slots) := by
  refine MetFree.of_bodySF (plainFor_of_name pn_7_2) hisR ?_
  intro p e s m args below meth c s₁ Bd hml0 hP hK
  obtain ⟨rfl, hZ, hh⟩ := hP
  have hx := Bd.exec
  have hby := Bd.bytes
  have hml : c.maxLocals = 6 := hml0
  have hown : s.vm.findClass "com/example/grammar_game_solver/grammargamesolver/summary/NumberedSets" = some m.cls := findClass_of_methodNamed Bd.named
  have hnm := (name_of_methodNamed Bd.named Bd.method).1
  have X0 : Stand p l e ({ frames := 0, cells := 0, slots := 0, locals := 0 } : Room) s m #[(.ref a1), (.int (0 : Int32)), (.ref a3), (.int (0 : Int32))] below meth c s₁ [] 0 0 := Stand.of_body Bd
  have e0 : s₁.heap = h0 := by rw [← hh, Bd.state]; rfl
  have N0 := Fr.nil n0
  obtain ⟨F0, hF0⟩ : ∃ F : JFrame, F = entryFrame m #[(.ref a1), (.int (0 : Int32)), (.ref a3), (.int (0 : Int32))] 6 := ⟨_, rfl⟩
  have pre0 : ∀ t, Steps p.tables e below (s₁.setTop F0) t → Steps p.tables e below (s₁.setTop (entryFrame m #[(.ref a1), (.int (0 : Int32)), (.ref a3), (.int (0 : Int32))] 6)) t := fun t k => hF0 ▸ k
  have go0 : Go p e below s₁ F0 s₁ (mkF m 0 #[vr a1, vi (0 : Int32), vr a3, vi (0 : Int32), .unset, .unset] []) := fun t k => castTop (hF0.trans (ef_7_2 m a1 a3)) k
  have go1 : Go p e below s₁ F0 s₁ (mkF m 2 #[vr a1, vi (0 : Int32), vr a3, vi (0 : Int32), .unset, .unset] [(.ref a1), (.int (0 : Int32))]) := by
    intro t_ k_
    refine go0 t_ ?_
    refine o_iloadN X0 hx (hb hby d7_0) rfl ?_
    refine o_aloadN X0 hx (hb hby d7_1) rfl rfl ?_
    exact k_
  obtain ⟨T2, X2, e2, st2⟩ := getF X0 hx hZ hown (host := "") (Or.inl (own_w hw 10 rfl)) Via.refl e0 Fwi (g := (mkF m 2 #[vr a1, vi (0 : Int32), vr a3, vi (0 : Int32), .unset, .unset] [(.ref a1), (.int (0 : Int32))])) rfl rfl (hb hby d7_2)
  have go3 : Go p e below s₁ F0 T2 (mkF m 5 #[vr a1, vi (0 : Int32), vr a3, vi (0 : Int32), .unset, .unset] [(.int (2 : Int32)), (.int (0 : Int32))]) := fun t_ k_ => go1 t_ (st2 t_ k_)
  have go4 : Go p e below s₁ F0 T2 (mkF m 14 #[vr a1, vi (0 : Int32), vr a3, vi (0 : Int32), vi (0 : Int32), vi (0 : Int32)] [(.ref a1), (.int (0 : Int32))]) := by
    intro t_ k_
    refine go3 t_ ?_
    refine o_imulE X2 hx (hb hby d7_5) (v := 0) rfl ?_
    refine o_istore X2 hx (hb hby d7_6) (L' := #[vr a1, vi (0 : Int32), vr a3, vi (0 : Int32), vi (0 : Int32), .unset]) rfl ?_
    refine o_iconst X2 hx (hb hby d7_8) (v := 0) rfl ?_
    refine o_istore X2 hx (hb hby d7_9) (L' := #[vr a1, vi (0 : Int32), vr a3, vi (0 : Int32), vi (0 : Int32), vi (0 : Int32)]) rfl ?_
    refine o_iload X2 hx (hb hby d7_11) rfl ?_
    refine o_aloadN X2 hx (hb hby d7_13) rfl rfl ?_
    exact k_
  obtain ⟨T5, X5, e5, st5⟩ := getF X2 hx hZ hown (host := "") (Or.inl (own_w hw 10 rfl)) Via.refl e2 Fwi (g := (mkF m 14 #[vr a1, vi (0 : Int32), vr a3, vi (0 : Int32), vi (0 : Int32), vi (0 : Int32)] [(.ref a1), (.int (0 : Int32))])) rfl rfl (hb hby d7_14)
  have go6 : Go p e below s₁ F0 T5 (mkF m 17 #[vr a1, vi (0 : Int32), vr a3, vi (0 : Int32), vi (0 : Int32), vi (0 : Int32)] [(.int (2 : Int32)), (.int (0 : Int32))]) := fun t_ k_ => go4 t_ (st5 t_ k_)
  have go7 : Go p e below s₁ F0 T5 (mkF m 21 #[vr a1, vi (0 : Int32), vr a3, vi (0 : Int32), vi (0 : Int32), vi (0 : Int32)] [(.ref a1)]) := by
    intro t_ k_
    refine go6 t_ ?_
    refine o_icmpNo X5 hx (hb hby d7_17) (tlt (by decide : (0 : Int32) < (2 : Int32))).2.1 ?_
    refine o_aloadN X5 hx (hb hby d7_20) rfl rfl ?_
    exact k_
  obtain ⟨T8, X8, e8, st8⟩ := getF X5 hx hZ hown (host := "") (Or.inl (own_w hw 12 rfl)) Via.refl e5 Fwo (g := (mkF m 21 #[vr a1, vi (0 : Int32), vr a3, vi (0 : Int32), vi (0 : Int32), vi (0 : Int32)] [(.ref a1)])) rfl rfl (hb hby d7_21)
  have go9 : Go p e below s₁ F0 T8 (mkF m 24 #[vr a1, vi (0 : Int32), vr a3, vi (0 : Int32), vi (0 : Int32), vi (0 : Int32)] [(.ref bw)]) := fun t_ k_ => go7 t_ (st8 t_ k_)
  have go10 : Go p e below s₁ F0 T8 (mkF m 29 #[vr a1, vi (0 : Int32), vr a3, vi (0 : Int32), vi (0 : Int32), vi (0 : Int32)] [(.int (0 : Int32)), (.ref bw)]) := by
    intro t_ k_
    refine go9 t_ ?_
    refine o_iload X8 hx (hb hby d7_24) rfl ?_
    refine o_iload X8 hx (hb hby d7_26) rfl ?_
    refine o_iaddE X8 hx (hb hby d7_28) (v := 0) rfl ?_
    exact k_
  obtain ⟨cl11, Ar11, -, Sz11, Nn11, Hs11, -⟩ := id Vw
  have hin11 : ¬ ((0 : Int32) < 0 ∨ cl11.slots.size ≤ ((0 : Int32)).toNatClampNeg) := inb_of Sz11 ⟨by decide, by decide⟩
  have hat11 : cl11.slots[((0 : Int32)).toNatClampNeg]? = some (.long x0) := Hs11.at hin11 rfl
  have go12 : Go p e below s₁ F0 T8 (mkF m 35 #[vr a1, vi (0 : Int32), vr a3, vi (0 : Int32), vi (0 : Int32), vi (0 : Int32)] [(.int (0 : Int32)), (.ref a3), (.long x0)]) := by
    intro t_ k_
    refine go10 t_ ?_
    refine o_laload X8 hx hZ e8 Ar11 hin11 hat11 (hb hby d7_29) ?_
    refine o_aloadN X8 hx (hb hby d7_30) rfl rfl ?_
    refine o_iloadN X8 hx (hb hby d7_31) rfl ?_
    refine o_iload X8 hx (hb hby d7_32) rfl ?_
    refine o_iaddE X8 hx (hb hby d7_34) (v := 0) rfl ?_
    exact k_
  obtain ⟨cl13, Ar13, -, Sz13, Nn13, Hs13, -⟩ := id V3
  have hin13 : ¬ ((0 : Int32) < 0 ∨ cl13.slots.size ≤ ((0 : Int32)).toNatClampNeg) := inb_of Sz13 ⟨by decide, by decide⟩
  have hat13 : cl13.slots[((0 : Int32)).toNatClampNeg]? = some (.long y0) := Hs13.at hin13 rfl
  have go14 : Go p e below s₁ F0 T8 (mkF m 37 #[vr a1, vi (0 : Int32), vr a3, vi (0 : Int32), vi (0 : Int32), vi (0 : Int32)] [(.int (lcmpW x0 y0))]) := by
    intro t_ k_
    refine go12 t_ ?_
    refine o_laload X8 hx hZ e8 Ar13 hin13 hat13 (hb hby d7_35) ?_
    refine o_lcmp X8 hx (hb hby d7_36) ?_
    exact k_
  by_cases hc37_15 : x0 = y0
  · skip
    have go16 : Go p e below s₁ F0 T8 (mkF m 14 #[vr a1, vi (0 : Int32), vr a3, vi (0 : Int32), vi (0 : Int32), vi (1 : Int32)] [(.ref a1), (.int (1 : Int32))]) := by
      intro t_ k_
      refine go14 t_ ?_
      refine o_ifYes X8 hx (hb hby d7_37) (pc' := 42) rfl (by decide) ((if0 _ _).trans (teq ((lw_eq _ _).mpr hc37_15)).1) ?_
      refine o_iinc X8 hx (hb hby d7_42) rfl (L' := #[vr a1, vi (0 : Int32), vr a3, vi (0 : Int32), vi (0 : Int32), vi (1 : Int32)]) rfl ?_
      refine o_goto X8 hx (hb hby d7_45) (pc' := 11) rfl (by decide) ?_
      refine o_iload X8 hx (hb hby d7_11) rfl ?_
      refine o_aloadN X8 hx (hb hby d7_13) rfl rfl ?_
      exact k_
    obtain ⟨T17, X17, e17, st17⟩ := getF X8 hx hZ hown (host := "") (Or.inl (own_w hw 10 rfl)) Via.refl e8 Fwi (g := (mkF m 14 #[vr a1, vi (0 : Int32), vr a3, vi (0 : Int32), vi (0 : Int32), vi (1 : Int32)] [(.ref a1), (.int (1 : Int32))])) rfl rfl (hb hby d7_14)
    have go18 : Go p e below s₁ F0 T17 (mkF m 17 #[vr a1, vi (0 : Int32), vr a3, vi (0 : Int32), vi (0 : Int32), vi (1 : Int32)] [(.int (2 : Int32)), (.int (1 : Int32))]) := fun t_ k_ => go16 t_ (st17 t_ k_)
    have go19 : Go p e below s₁ F0 T17 (mkF m 21 #[vr a1, vi (0 : Int32), vr a3, vi (0 : Int32), vi (0 : Int32), vi (1 : Int32)] [(.ref a1)]) := by
      intro t_ k_
      refine go18 t_ ?_
      refine o_icmpNo X17 hx (hb hby d7_17) (tlt (by decide : (1 : Int32) < (2 : Int32))).2.1 ?_
      refine o_aloadN X17 hx (hb hby d7_20) rfl rfl ?_
      exact k_
    obtain ⟨T20, X20, e20, st20⟩ := getF X17 hx hZ hown (host := "") (Or.inl (own_w hw 12 rfl)) Via.refl e17 Fwo (g := (mkF m 21 #[vr a1, vi (0 : Int32), vr a3, vi (0 : Int32), vi (0 : Int32), vi (1 : Int32)] [(.ref a1)])) rfl rfl (hb hby d7_21)
    have go21 : Go p e below s₁ F0 T20 (mkF m 24 #[vr a1, vi (0 : Int32), vr a3, vi (0 : Int32), vi (0 : Int32), vi (1 : Int32)] [(.ref bw)]) := fun t_ k_ => go19 t_ (st20 t_ k_)
    have go22 : Go p e below s₁ F0 T20 (mkF m 29 #[vr a1, vi (0 : Int32), vr a3, vi (0 : Int32), vi (0 : Int32), vi (1 : Int32)] [(.int (1 : Int32)), (.ref bw)]) := by
      intro t_ k_
      refine go21 t_ ?_
      refine o_iload X20 hx (hb hby d7_24) rfl ?_
      refine o_iload X20 hx (hb hby d7_26) rfl ?_
      refine o_iaddE X20 hx (hb hby d7_28) (v := 1) rfl ?_
      exact k_
    obtain ⟨cl23, Ar23, -, Sz23, Nn23, Hs23, -⟩ := id Vw
    have hin23 : ¬ ((1 : Int32) < 0 ∨ cl23.slots.size ≤ ((1 : Int32)).toNatClampNeg) := inb_of Sz23 ⟨by decide, by decide⟩
    have hat23 : cl23.slots[((1 : Int32)).toNatClampNeg]? = some (.long x1) := Hs23.at hin23 rfl
    have go24 : Go p e below s₁ F0 T20 (mkF m 35 #[vr a1, vi (0 : Int32), vr a3, vi (0 : Int32), vi (0 : Int32), vi (1 : Int32)] [(.int (1 : Int32)), (.ref a3), (.long x1)]) := by
      intro t_ k_
      refine go22 t_ ?_
      refine o_laload X20 hx hZ e20 Ar23 hin23 hat23 (hb hby d7_29) ?_
      refine o_aloadN X20 hx (hb hby d7_30) rfl rfl ?_
      refine o_iloadN X20 hx (hb hby d7_31) rfl ?_
      refine o_iload X20 hx (hb hby d7_32) rfl ?_
      refine o_iaddE X20 hx (hb hby d7_34) (v := 1) rfl ?_
      exact k_
    obtain ⟨cl25, Ar25, -, Sz25, Nn25, Hs25, -⟩ := id V3
    have hin25 : ¬ ((1 : Int32) < 0 ∨ cl25.slots.size ≤ ((1 : Int32)).toNatClampNeg) := inb_of Sz25 ⟨by decide, by decide⟩
    have hat25 : cl25.slots[((1 : Int32)).toNatClampNeg]? = some (.long y1) := Hs25.at hin25 rfl
    have go26 : Go p e below s₁ F0 T20 (mkF m 37 #[vr a1, vi (0 : Int32), vr a3, vi (0 : Int32), vi (0 : Int32), vi (1 : Int32)] [(.int (lcmpW x1 y1))]) := by
      intro t_ k_
      refine go24 t_ ?_
      refine o_laload X20 hx hZ e20 Ar25 hin25 hat25 (hb hby d7_35) ?_
      refine o_lcmp X20 hx (hb hby d7_36) ?_
      exact k_
    by_cases hc37_27 : x1 = y1
    · skip
      have go28 : Go p e below s₁ F0 T20 (mkF m 14 #[vr a1, vi (0 : Int32), vr a3, vi (0 : Int32), vi (0 : Int32), vi (2 : Int32)] [(.ref a1), (.int (2 : Int32))]) := by
        intro t_ k_
        refine go26 t_ ?_
        refine o_ifYes X20 hx (hb hby d7_37) (pc' := 42) rfl (by decide) ((if0 _ _).trans (teq ((lw_eq _ _).mpr hc37_27)).1) ?_
        refine o_iinc X20 hx (hb hby d7_42) rfl (L' := #[vr a1, vi (0 : Int32), vr a3, vi (0 : Int32), vi (0 : Int32), vi (2 : Int32)]) rfl ?_
        refine o_goto X20 hx (hb hby d7_45) (pc' := 11) rfl (by decide) ?_
        refine o_iload X20 hx (hb hby d7_11) rfl ?_
        refine o_aloadN X20 hx (hb hby d7_13) rfl rfl ?_
        exact k_
      obtain ⟨T29, X29, e29, st29⟩ := getF X20 hx hZ hown (host := "") (Or.inl (own_w hw 10 rfl)) Via.refl e20 Fwi (g := (mkF m 14 #[vr a1, vi (0 : Int32), vr a3, vi (0 : Int32), vi (0 : Int32), vi (2 : Int32)] [(.ref a1), (.int (2 : Int32))])) rfl rfl (hb hby d7_14)
      have go30 : Go p e below s₁ F0 T29 (mkF m 17 #[vr a1, vi (0 : Int32), vr a3, vi (0 : Int32), vi (0 : Int32), vi (2 : Int32)] [(.int (2 : Int32)), (.int (2 : Int32))]) := fun t_ k_ => go28 t_ (st29 t_ k_)
      have go31 : Go p e below s₁ F0 T29 (mkF m 49 #[vr a1, vi (0 : Int32), vr a3, vi (0 : Int32), vi (0 : Int32), vi (2 : Int32)] [(.int (1 : Int32))]) := by
        intro t_ k_
        refine go30 t_ ?_
        refine o_icmpYes X29 hx (hb hby d7_17) (pc' := 48) rfl (by decide) (flt (by decide : ¬ ((2 : Int32) < (2 : Int32)))).2.1 ?_
        refine o_iconst X29 hx (hb hby d7_48) (v := 1) rfl ?_
        exact k_
      obtain ⟨fs, hr, hrun, hended, hW, hsame⟩ := X29.leave (v := some (.int (1 : Int32))) (fun h => by rw [Bd.returns] at h; cases h)
      refine ⟨_, _, pre0 _ (go31 _ ?_), hrun, hended, _, _, rfl, ?_, ⟨_, rfl⟩, hW, hsame.mono (by decide) (by decide)⟩
      · skip
        exact retN X29 hx (t := .boolean) Bd.returns (by simp) (hb hby d7_49) hr
      · show Q7_2 Z a1 a3 bw kw k2 x0 x1 y0 y1 h0 n0 _ T29.heap _
        rw [e29]
        exact ⟨(congrArg (fun z => some (Value.int z)) (show (1 : Int32) = f7_2 x0 x1 y0 y1 from by unfold f7_2; rw [if_pos hc37_15, if_pos hc37_27])), N0, rfl⟩
    · skip
      have go32 : Go p e below s₁ F0 T20 (mkF m 41 #[vr a1, vi (0 : Int32), vr a3, vi (0 : Int32), vi (0 : Int32), vi (1 : Int32)] [(.int (0 : Int32))]) := by
        intro t_ k_
        refine go26 t_ ?_
        refine o_ifNo X20 hx (hb hby d7_37) ((if0 _ _).trans (feq (fun q => hc37_27 ((lw_eq _ _).mp q))).1) ?_
        refine o_iconst X20 hx (hb hby d7_40) (v := 0) rfl ?_
        exact k_
      obtain ⟨fs, hr, hrun, hended, hW, hsame⟩ := X20.leave (v := some (.int (0 : Int32))) (fun h => by rw [Bd.returns] at h; cases h)
      refine ⟨_, _, pre0 _ (go32 _ ?_), hrun, hended, _, _, rfl, ?_, ⟨_, rfl⟩, hW, hsame.mono (by decide) (by decide)⟩
      · skip
        exact retN X20 hx (t := .boolean) Bd.returns (by simp) (hb hby d7_41) hr
      · show Q7_2 Z a1 a3 bw kw k2 x0 x1 y0 y1 h0 n0 _ T20.heap _
        rw [e20]
        exact ⟨(congrArg (fun z => some (Value.int z)) (show (0 : Int32) = f7_2 x0 x1 y0 y1 from by unfold f7_2; rw [if_pos hc37_15, if_neg hc37_27])), N0, rfl⟩
  · skip
    have go33 : Go p e below s₁ F0 T8 (mkF m 41 #[vr a1, vi (0 : Int32), vr a3, vi (0 : Int32), vi (0 : Int32), vi (0 : Int32)] [(.int (0 : Int32))]) := by
      intro t_ k_
      refine go14 t_ ?_
      refine o_ifNo X8 hx (hb hby d7_37) ((if0 _ _).trans (feq (fun q => hc37_15 ((lw_eq _ _).mp q))).1) ?_
      refine o_iconst X8 hx (hb hby d7_40) (v := 0) rfl ?_
      exact k_
    obtain ⟨fs, hr, hrun, hended, hW, hsame⟩ := X8.leave (v := some (.int (0 : Int32))) (fun h => by rw [Bd.returns] at h; cases h)
    refine ⟨_, _, pre0 _ (go33 _ ?_), hrun, hended, _, _, rfl, ?_, ⟨_, rfl⟩, hW, hsame.mono (by decide) (by decide)⟩
    · skip
      exact retN X8 hx (t := .boolean) Bd.returns (by simp) (hb hby d7_41) hr
    · show Q7_2 Z a1 a3 bw kw k2 x0 x1 y0 y1 h0 n0 _ T8.heap _
      rw [e8]
      exact ⟨(congrArg (fun z => some (Value.int z)) (show (0 : Int32) = f7_2 x0 x1 y0 y1 from by unfold f7_2; rw [if_neg hc37_15])), N0, rfl⟩

theorem own_neH_2 {x0 x1 y0 y1 : Int64} {hs hs2 : Int32} (h1 : hs = (((31 : Int32) * ((31 : Int32) + (f5 x0))) + (f5 x1))) (h2 : hs2 = (((31 : Int32) * ((31 : Int32) + (f5 y0))) + (f5 y1))) (h : ¬ hs = hs2) : ¬ (x0 = y0 ∧ x1 = y1) := by
  intro q
  apply h
  obtain ⟨rfl, rfl⟩ := q
  rw [h1, h2]
theorem own_neT_2 {x0 x1 y0 y1 : Int64} {hs hs2 sl t : Int32} (h1 : hs = (((31 : Int32) * ((31 : Int32) + (f5 x0))) + (f5 x1))) (h3 : sl = (f6 hs (31 : Int32))) (h2 : hs2 = (((31 : Int32) * ((31 : Int32) + (f5 y0))) + (f5 y1))) (h4 : t = (f6 hs2 (31 : Int32))) (h : ¬ t = sl) : ¬ (x0 = y0 ∧ x1 = y1) := by
  intro q
  apply h
  obtain ⟨rfl, rfl⟩ := q
  rw [h4, h3, h2, h1]
theorem own_eqT_2 {x0 x1 y0 y1 : Int64} (h : ¬ (f7_2 x0 x1 y0 y1) = (0 : Int32)) : (x0 = y0 ∧ x1 = y1) := by
  unfold f7_2 at h
  split at h
  · split at h
    · exact ⟨by assumption, by assumption⟩
    · exact absurd rfl h
  · exact absurd rfl h
theorem own_neW_2 {x0 x1 y0 y1 : Int64} (h : (f7_2 x0 x1 y0 y1) = (0 : Int32)) : ¬ (x0 = y0 ∧ x1 = y1) := by
  intro q
  unfold f7_2 at h
  rw [if_pos q.1, if_pos q.2] at h
  exact absurd h (by decide)

theorem d4_62 : decode prog_63_method_6_code 62 = .ok (.aload_n 0, 1) := by decide +kernel
theorem d4_63 : decode prog_63_method_6_code 63 = .ok (.getfield 21, 3) := by decide +kernel
theorem d4_66 : decode prog_63_method_6_code 66 = .ok (.iload 5, 2) := by decide +kernel
theorem d4_68 : decode prog_63_method_6_code 68 = .ok (.iaload, 1) := by decide +kernel
theorem d4_69 : decode prog_63_method_6_code 69 = .ok (.iconst 1, 1) := by decide +kernel
theorem d4_70 : decode prog_63_method_6_code 70 = .ok (.isub, 1) := by decide +kernel
theorem d4_71 : decode prog_63_method_6_code 71 = .ok (.istore 6, 2) := by decide +kernel
theorem d4_73 : decode prog_63_method_6_code 73 = .ok (.aload_n 0, 1) := by decide +kernel
theorem d4_74 : decode prog_63_method_6_code 74 = .ok (.getfield 17, 3) := by decide +kernel
theorem d4_77 : decode prog_63_method_6_code 77 = .ok (.iload 6, 2) := by decide +kernel
theorem d4_79 : decode prog_63_method_6_code 79 = .ok (.iaload, 1) := by decide +kernel
theorem d4_80 : decode prog_63_method_6_code 80 = .ok (.iload_n 3, 1) := by decide +kernel
theorem d4_81 : decode prog_63_method_6_code 81 = .ok (.if_icmp .ne 17, 3) := by decide +kernel
theorem d4_84 : decode prog_63_method_6_code 84 = .ok (.aload_n 0, 1) := by decide +kernel
theorem d4_85 : decode prog_63_method_6_code 85 = .ok (.iload 6, 2) := by decide +kernel
theorem d4_87 : decode prog_63_method_6_code 87 = .ok (.aload_n 1, 1) := by decide +kernel
theorem d4_88 : decode prog_63_method_6_code 88 = .ok (.iload_n 2, 1) := by decide +kernel
theorem d4_89 : decode prog_63_method_6_code 89 = .ok (.invokevirtual 41, 3) := by decide +kernel
theorem d4_92 : decode prog_63_method_6_code 92 = .ok (.ifCond .eq 6, 3) := by decide +kernel
theorem d4_95 : decode prog_63_method_6_code 95 = .ok (.iload 6, 2) := by decide +kernel
theorem d4_97 : decode prog_63_method_6_code 97 = .ok (.ireturn, 1) := by decide +kernel
theorem d4_98 : decode prog_63_method_6_code 98 = .ok (.iload 5, 2) := by decide +kernel
theorem d4_100 : decode prog_63_method_6_code 100 = .ok (.iconst 1, 1) := by decide +kernel
theorem d4_101 : decode prog_63_method_6_code 101 = .ok (.iadd, 1) := by decide +kernel
theorem d4_102 : decode prog_63_method_6_code 102 = .ok (.iload 4, 2) := by decide +kernel
theorem d4_104 : decode prog_63_method_6_code 104 = .ok (.iand, 1) := by decide +kernel
theorem d4_105 : decode prog_63_method_6_code 105 = .ok (.istore 5, 2) := by decide +kernel
theorem d4_107 : decode prog_63_method_6_code 107 = .ok (.goto (-55), 3) := by decide +kernel
theorem pn_4_b2 : plainName "com/example/grammar_game_solver/grammargamesolver/summary/NumberedSets" = true := by first | (simp [plainName, overriddenIn]; done) | decide +kernel
theorem pd4_b2_0 : parseMethodDescriptor "(J)I" = some ⟨[.long], some .int⟩ := by decide +kernel
theorem pd4_b2_1 : parseMethodDescriptor "(II)I" = some ⟨[.int, .int], some .int⟩ := by decide +kernel
theorem pd4_b2_2 : parseMethodDescriptor "(I[JI)Z" = some ⟨[.int, (.array .long), .int], some .boolean⟩ := by decide +kernel
theorem ef_4_b2 (m : MethodId) (x0 : Addr) (x1 : Addr) : entryFrame m #[(.ref x0), (.ref x1), (.int (0 : Int32))] 7 = mkF m 0 #[vr x0, vr x1, vi (0 : Int32), .unset, .unset, .unset, .unset] [] := by first | (simp [entryFrame, mkF, argsToLocals, Value.category]; done) | rfl
def Q4_b2 (Z : State) (a1 : Addr) (a2 : Addr) (bw : Addr) (bh : Addr) (bs : Addr) (kw : ClassId) (kh : ClassId) (ks : ClassId) (k2 : ClassId) (hs : Int32) (sl : Int32) (x0 : Int64) (x1 : Int64) (y0 : Int64) (y1 : Int64) (h0 : Heap) (n0 : Nat) (v : Option Value) (h : Heap) (L : List Loc) : Prop := ∃ n : Int32, ∃ w0 : Int64, ∃ w1 : Int64, v = some (.int n) ∧ Fr n0 L ∧ Keep h0 h [a1, bw, bh, bs] ∧ Fld Z h a1 c_0 "width" "I" (.int (2 : Int32)) ∧ Fld Z h a1 c_0 "words" "[J" (.ref bw) ∧ Arv Z h bw kw .long (32 : Int32) ((.long x0) :: (.long x1) :: (.long w0) :: (.long w1) :: own_zl 28) (.long (0 : Int64)) ∧ ((n = (0 : Int32) ∧ (x0 = y0 ∧ x1 = y1)) ∨ (n = (1 : Int32) ∧ ¬ (x0 = y0 ∧ x1 = y1) ∧ w0 = y0 ∧ w1 = y1))
set_option maxRecDepth 65536 in
set_option maxHeartbeats 40000000 in
theorem rm4_b2 (l : Launch) (Z : State) (a0 : Array Value) (hw : ∀ d ∈ tables_1, d.before a0 Z = true) (ws : List Jvm.Cond) (a1 : Addr) (a2 : Addr) (bw : Addr) (bh : Addr) (bs : Addr) (kw : ClassId) (kh : ClassId) (ks : ClassId) (k2 : ClassId) (hs : Int32) (sl : Int32) (x0 : Int64) (x1 : Int64) (y0 : Int64) (y1 : Int64) (h0 : Heap) (n0 : Nat) (Z0 : n0 ≤ h0.size) (E0 : Exa Z h0 a1 c_0) (Fwi : Fld Z h0 a1 c_0 "width" "I" (.int (2 : Int32))) (Fwo : Fld Z h0 a1 c_0 "words" "[J" (.ref bw)) (Fha : Fld Z h0 a1 c_0 "hashes" "[I" (.ref bh)) (Fsl : Fld Z h0 a1 c_0 "slots" "[I" (.ref bs)) (Fco : Fld Z h0 a1 c_0 "count" "I" (.int (1 : Int32))) (Vw : Arv Z h0 bw kw .long (32 : Int32) ((.long x0) :: (.long x1) :: own_zl 30) (.long (0 : Int64))) (Vh : Arv Z h0 bh kh .int (16 : Int32) ((.int hs) :: own_zi 15) (.int (0 : Int32))) (Vs : Arv Z h0 bs ks .int (32 : Int32) (own_sl sl) (.int (0 : Int32))) (V2 : Arv Z h0 a2 k2 .long (2 : Int32) [(.long y0), (.long y1)] (.long (0 : Int64))) (g1 : n0 ≤ a1) (gw : n0 ≤ bw) (gh : n0 ≤ bh) (gs : n0 ≤ bs) (naw : a1 ≠ bw) (nah : a1 ≠ bh) (nas : a1 ≠ bs) (n2w : a2 ≠ bw) (n2h : a2 ≠ bh) (n2s : a2 ≠ bs) (n12 : a1 ≠ a2) (nwh : bw ≠ bh) (nws : bw ≠ bs) (nhs : bh ≠ bs) (hhs : hs = (((31 : Int32) * ((31 : Int32) + (f5 x0))) + (f5 x1))) (hsl : sl = (f6 hs (31 : Int32))) :
    MetFree l y_3 (head1 (Jvm.Cond.code y_3 prog_63_method_6_code 7 (some .int) :: ws) ({ frames := 1, cells := 0, slots := 0, locals := 18 } : Room)) (fun a U => a = #[(.ref a1), (.ref a2), (.int (0 : Int32))] ∧ Z.Warmed39 U.vm ∧ U.heap = h0) (fun _ _ _ _ _ => True) (fun _ U o U' => ∃ v L, o = .returned v ∧ Q4_b2 Z a1 a2 bw bh bs kw kh ks k2 hs sl x0 x1 y0 y1 h0 n0 v U'.heap L ∧ FrameEnd U o U' L ({ frames := 1, cells := 0, slots := 0, locals := 18 } : Room).cells ({ frames := 1, cells := 0, slots := 0, locals := 18 } : Room).slots) := by
  refine MetFree.of_bodySF (plainFor_of_name pn_4_b2) hisR ?_
  intro p e s m args below meth c s₁ Bd hml0 hP hK
  obtain ⟨rfl, hZ, hh⟩ := hP
  have hx := Bd.exec
  have hby := Bd.bytes
  have hml : c.maxLocals = 7 := hml0
  have hown : s.vm.findClass "com/example/grammar_game_solver/grammargamesolver/summary/NumberedSets" = some m.cls := findClass_of_methodNamed Bd.named
  have hnm := (name_of_methodNamed Bd.named Bd.method).1
  have X0 : Stand p l e ({ frames := 1, cells := 0, slots := 0, locals := 18 } : Room) s m #[(.ref a1), (.ref a2), (.int (0 : Int32))] below meth c s₁ [] 0 0 := Stand.of_body Bd
  have e0 : s₁.heap = h0 := by rw [← hh, Bd.state]; rfl
  have N0 := Fr.nil n0
  have K0 : Keep h0 h0 [a1, bw, bh, bs] := Keep.refl h0 [a1, bw, bh, bs]
  obtain ⟨F0, hF0⟩ : ∃ F : JFrame, F = entryFrame m #[(.ref a1), (.ref a2), (.int (0 : Int32))] 7 := ⟨_, rfl⟩
  have pre0 : ∀ t, Steps p.tables e below (s₁.setTop F0) t → Steps p.tables e below (s₁.setTop (entryFrame m #[(.ref a1), (.ref a2), (.int (0 : Int32))] 7)) t := fun t k => hF0 ▸ k
  have go0 : Go p e below s₁ F0 s₁ (mkF m 0 #[vr a1, vr a2, vi (0 : Int32), .unset, .unset, .unset, .unset] []) := fun t k => castTop (hF0.trans (ef_4_b2 m a1 a2)) k
  have go1 : Go p e below s₁ F0 s₁ (mkF m 8 #[vr a1, vr a2, vi (0 : Int32), vi (1 : Int32), vi (0 : Int32), .unset, .unset] [(.ref a1), (.int (0 : Int32))]) := by
    intro t_ k_
    refine go0 t_ ?_
    refine o_iconst X0 hx (hb hby d4_0) (v := 1) rfl ?_
    refine o_istoreN X0 hx (hb hby d4_1) (L' := #[vr a1, vr a2, vi (0 : Int32), vi (1 : Int32), .unset, .unset, .unset]) rfl ?_
    refine o_iconst X0 hx (hb hby d4_2) (v := 0) rfl ?_
    refine o_istore X0 hx (hb hby d4_3) (L' := #[vr a1, vr a2, vi (0 : Int32), vi (1 : Int32), vi (0 : Int32), .unset, .unset]) rfl ?_
    refine o_iload X0 hx (hb hby d4_5) rfl ?_
    refine o_aloadN X0 hx (hb hby d4_7) rfl rfl ?_
    exact k_
  obtain ⟨T2, X2, e2, st2⟩ := getF X0 hx hZ hown (host := "") (Or.inl (own_w hw 10 rfl)) Via.refl e0 Fwi (g := (mkF m 8 #[vr a1, vr a2, vi (0 : Int32), vi (1 : Int32), vi (0 : Int32), .unset, .unset] [(.ref a1), (.int (0 : Int32))])) rfl rfl (hb hby d4_8)
  have go3 : Go p e below s₁ F0 T2 (mkF m 11 #[vr a1, vr a2, vi (0 : Int32), vi (1 : Int32), vi (0 : Int32), .unset, .unset] [(.int (2 : Int32)), (.int (0 : Int32))]) := fun t_ k_ => go1 t_ (st2 t_ k_)
  have go4 : Go p e below s₁ F0 T2 (mkF m 23 #[vr a1, vr a2, vi (0 : Int32), vi (1 : Int32), vi (0 : Int32), .unset, .unset] [(.int (0 : Int32)), (.ref a2), (.int (31 : Int32))]) := by
    intro t_ k_
    refine go3 t_ ?_
    refine o_icmpNo X2 hx (hb hby d4_11) (tlt (by decide : (0 : Int32) < (2 : Int32))).2.1 ?_
    refine o_bipush X2 hx (hb hby d4_14) (v := 31) rfl ?_
    refine o_iloadN X2 hx (hb hby d4_16) rfl ?_
    refine o_imulE X2 hx (hb hby d4_17) (v := 31) rfl ?_
    refine o_aloadN X2 hx (hb hby d4_18) rfl rfl ?_
    refine o_iloadN X2 hx (hb hby d4_19) rfl ?_
    refine o_iload X2 hx (hb hby d4_20) rfl ?_
    refine o_iaddE X2 hx (hb hby d4_22) (v := 0) rfl ?_
    exact k_
  obtain ⟨cl5, Ar5, -, Sz5, Nn5, Hs5, -⟩ := id V2
  have hin5 : ¬ ((0 : Int32) < 0 ∨ cl5.slots.size ≤ ((0 : Int32)).toNatClampNeg) := inb_of Sz5 ⟨by decide, by decide⟩
  have hat5 : cl5.slots[((0 : Int32)).toNatClampNeg]? = some (.long y0) := Hs5.at hin5 rfl
  have go6 : Go p e below s₁ F0 T2 (mkF m 24 #[vr a1, vr a2, vi (0 : Int32), vi (1 : Int32), vi (0 : Int32), .unset, .unset] [(.long y0), (.int (31 : Int32))]) := by
    intro t_ k_
    refine go4 t_ ?_
    refine o_laload X2 hx hZ e2 Ar5 hin5 hat5 (hb hby d4_23) ?_
    exact k_
  obtain ⟨_, _, ⟨T7, L7, k7, n7⟩, -, X7, ⟨Lc7, hQ7, l7, y7, z7⟩, st7⟩ := Jvm.LawKit.callS X2 hx (y := y_0) hown (mvT hZ (own_w hw 28 rfl)) (mvT hZ (own_w hw 29 rfl)) (mvT hZ (own_w hw 30 rfl)) (mvT hZ (own_w hw 31 rfl)) (by decide) (backOf (W := 1) (rm5 l Z a0 hw [] y0 h0 n0 Z0 ) hZ (own_w hw 31 rfl) (own_w hw 30 rfl) (by decide) (by decide)) (g := (mkF m 24 #[vr a1, vr a2, vi (0 : Int32), vi (1 : Int32), vi (0 : Int32), .unset, .unset] [(.long y0), (.int (31 : Int32))])) rfl (by rw [hml]; rfl) (argsL := [(.long y0)]) (rest := [(.int (31 : Int32))]) (lenOf pd4_b2_0 rfl) rfl (by show 2 * 0 + _ ≤ _; exact Nat.le_of_eq rfl) (hb hby d4_24) (fun _ _ => ⟨rfl, e2, (by decide : 0 + 0 ≤ _), (by decide : 0 + 0 ≤ _)⟩)
  dsimp only [Pt.U, Pt.locs, Pt.cells, Pt.slots] at X7 l7 y7 z7 st7 hQ7
  subst l7 y7 z7
  obtain ⟨rfl, Nq7, eh7⟩ := hQ7
  have N7 := Fr.app N0 Nq7
  have go8 : Go p e below s₁ F0 T7 (mkF m 27 #[vr a1, vr a2, vi (0 : Int32), vi (1 : Int32), vi (0 : Int32), .unset, .unset] [(.int (f5 y0)), (.int (31 : Int32))]) := fun t_ k_ => go6 t_ (st7 t_ k_)
  have go9 : Go p e below s₁ F0 T7 (mkF m 8 #[vr a1, vr a2, vi (0 : Int32), vi ((31 : Int32) + (f5 y0)), vi (1 : Int32), .unset, .unset] [(.ref a1), (.int (1 : Int32))]) := by
    intro t_ k_
    refine go8 t_ ?_
    refine o_iadd X7 hx (hb hby d4_27) ?_
    refine o_istoreN X7 hx (hb hby d4_28) (L' := #[vr a1, vr a2, vi (0 : Int32), vi ((31 : Int32) + (f5 y0)), vi (0 : Int32), .unset, .unset]) rfl ?_
    refine o_iinc X7 hx (hb hby d4_29) rfl (L' := #[vr a1, vr a2, vi (0 : Int32), vi ((31 : Int32) + (f5 y0)), vi (1 : Int32), .unset, .unset]) rfl ?_
    refine o_goto X7 hx (hb hby d4_32) (pc' := 5) rfl (by decide) ?_
    refine o_iload X7 hx (hb hby d4_5) rfl ?_
    refine o_aloadN X7 hx (hb hby d4_7) rfl rfl ?_
    exact k_
  obtain ⟨T10, X10, e10, st10⟩ := getF X7 hx hZ hown (host := "") (Or.inl (own_w hw 10 rfl)) Via.refl eh7 Fwi (g := (mkF m 8 #[vr a1, vr a2, vi (0 : Int32), vi ((31 : Int32) + (f5 y0)), vi (1 : Int32), .unset, .unset] [(.ref a1), (.int (1 : Int32))])) rfl rfl (hb hby d4_8)
  have go11 : Go p e below s₁ F0 T10 (mkF m 11 #[vr a1, vr a2, vi (0 : Int32), vi ((31 : Int32) + (f5 y0)), vi (1 : Int32), .unset, .unset] [(.int (2 : Int32)), (.int (1 : Int32))]) := fun t_ k_ => go9 t_ (st10 t_ k_)
  have go12 : Go p e below s₁ F0 T10 (mkF m 23 #[vr a1, vr a2, vi (0 : Int32), vi ((31 : Int32) + (f5 y0)), vi (1 : Int32), .unset, .unset] [(.int (1 : Int32)), (.ref a2), (.int ((31 : Int32) * ((31 : Int32) + (f5 y0))))]) := by
    intro t_ k_
    refine go11 t_ ?_
    refine o_icmpNo X10 hx (hb hby d4_11) (tlt (by decide : (1 : Int32) < (2 : Int32))).2.1 ?_
    refine o_bipush X10 hx (hb hby d4_14) (v := 31) rfl ?_
    refine o_iloadN X10 hx (hb hby d4_16) rfl ?_
    refine o_imul X10 hx (hb hby d4_17) ?_
    refine o_aloadN X10 hx (hb hby d4_18) rfl rfl ?_
    refine o_iloadN X10 hx (hb hby d4_19) rfl ?_
    refine o_iload X10 hx (hb hby d4_20) rfl ?_
    refine o_iaddE X10 hx (hb hby d4_22) (v := 1) rfl ?_
    exact k_
  obtain ⟨cl13, Ar13, -, Sz13, Nn13, Hs13, -⟩ := id V2
  have hin13 : ¬ ((1 : Int32) < 0 ∨ cl13.slots.size ≤ ((1 : Int32)).toNatClampNeg) := inb_of Sz13 ⟨by decide, by decide⟩
  have hat13 : cl13.slots[((1 : Int32)).toNatClampNeg]? = some (.long y1) := Hs13.at hin13 rfl
  have go14 : Go p e below s₁ F0 T10 (mkF m 24 #[vr a1, vr a2, vi (0 : Int32), vi ((31 : Int32) + (f5 y0)), vi (1 : Int32), .unset, .unset] [(.long y1), (.int ((31 : Int32) * ((31 : Int32) + (f5 y0))))]) := by
    intro t_ k_
    refine go12 t_ ?_
    refine o_laload X10 hx hZ e10 Ar13 hin13 hat13 (hb hby d4_23) ?_
    exact k_
  obtain ⟨_, _, ⟨T15, L15, k15, n15⟩, -, X15, ⟨Lc15, hQ15, l15, y15, z15⟩, st15⟩ := Jvm.LawKit.callS X10 hx (y := y_0) hown (mvT hZ (own_w hw 28 rfl)) (mvT hZ (own_w hw 29 rfl)) (mvT hZ (own_w hw 30 rfl)) (mvT hZ (own_w hw 31 rfl)) (by decide) (backOf (W := 1) (rm5 l Z a0 hw [] y1 h0 n0 Z0 ) hZ (own_w hw 31 rfl) (own_w hw 30 rfl) (by decide) (by decide)) (g := (mkF m 24 #[vr a1, vr a2, vi (0 : Int32), vi ((31 : Int32) + (f5 y0)), vi (1 : Int32), .unset, .unset] [(.long y1), (.int ((31 : Int32) * ((31 : Int32) + (f5 y0))))])) rfl (by rw [hml]; rfl) (argsL := [(.long y1)]) (rest := [(.int ((31 : Int32) * ((31 : Int32) + (f5 y0))))]) (lenOf pd4_b2_0 rfl) rfl (by show 2 * 0 + _ ≤ _; exact Nat.le_of_eq rfl) (hb hby d4_24) (fun _ _ => ⟨rfl, e10, (by decide : 0 + 0 ≤ _), (by decide : 0 + 0 ≤ _)⟩)
  dsimp only [Pt.U, Pt.locs, Pt.cells, Pt.slots] at X15 l15 y15 z15 st15 hQ15
  subst l15 y15 z15
  obtain ⟨rfl, Nq15, eh15⟩ := hQ15
  have N15 := Fr.app N7 Nq15
  have go16 : Go p e below s₁ F0 T15 (mkF m 27 #[vr a1, vr a2, vi (0 : Int32), vi ((31 : Int32) + (f5 y0)), vi (1 : Int32), .unset, .unset] [(.int (f5 y1)), (.int ((31 : Int32) * ((31 : Int32) + (f5 y0))))]) := fun t_ k_ => go14 t_ (st15 t_ k_)
  have go17 : Go p e below s₁ F0 T15 (mkF m 8 #[vr a1, vr a2, vi (0 : Int32), vi (((31 : Int32) * ((31 : Int32) + (f5 y0))) + (f5 y1)), vi (2 : Int32), .unset, .unset] [(.ref a1), (.int (2 : Int32))]) := by
    intro t_ k_
    refine go16 t_ ?_
    refine o_iadd X15 hx (hb hby d4_27) ?_
    refine o_istoreN X15 hx (hb hby d4_28) (L' := #[vr a1, vr a2, vi (0 : Int32), vi (((31 : Int32) * ((31 : Int32) + (f5 y0))) + (f5 y1)), vi (1 : Int32), .unset, .unset]) rfl ?_
    refine o_iinc X15 hx (hb hby d4_29) rfl (L' := #[vr a1, vr a2, vi (0 : Int32), vi (((31 : Int32) * ((31 : Int32) + (f5 y0))) + (f5 y1)), vi (2 : Int32), .unset, .unset]) rfl ?_
    refine o_goto X15 hx (hb hby d4_32) (pc' := 5) rfl (by decide) ?_
    refine o_iload X15 hx (hb hby d4_5) rfl ?_
    refine o_aloadN X15 hx (hb hby d4_7) rfl rfl ?_
    exact k_
  obtain ⟨T18, X18, e18, st18⟩ := getF X15 hx hZ hown (host := "") (Or.inl (own_w hw 10 rfl)) Via.refl eh15 Fwi (g := (mkF m 8 #[vr a1, vr a2, vi (0 : Int32), vi (((31 : Int32) * ((31 : Int32) + (f5 y0))) + (f5 y1)), vi (2 : Int32), .unset, .unset] [(.ref a1), (.int (2 : Int32))])) rfl rfl (hb hby d4_8)
  have go19 : Go p e below s₁ F0 T18 (mkF m 11 #[vr a1, vr a2, vi (0 : Int32), vi (((31 : Int32) * ((31 : Int32) + (f5 y0))) + (f5 y1)), vi (2 : Int32), .unset, .unset] [(.int (2 : Int32)), (.int (2 : Int32))]) := fun t_ k_ => go17 t_ (st18 t_ k_)
  have go20 : Go p e below s₁ F0 T18 (mkF m 35 #[vr a1, vr a2, vi (0 : Int32), vi (((31 : Int32) * ((31 : Int32) + (f5 y0))) + (f5 y1)), vi (2 : Int32), .unset, .unset] []) := by
    intro t_ k_
    refine go19 t_ ?_
    refine o_icmpYes X18 hx (hb hby d4_11) (pc' := 35) rfl (by decide) (flt (by decide : ¬ ((2 : Int32) < (2 : Int32)))).2.1 ?_
    exact k_
  obtain ⟨hs2, h_hs2⟩ : ∃ z : Int32, z = (((31 : Int32) * ((31 : Int32) + (f5 y0))) + (f5 y1)) := ⟨_, rfl⟩
  have go21 : Go p e below s₁ F0 T18 (mkF m 35 #[vr a1, vr a2, vi (0 : Int32), vi hs2, vi (2 : Int32), .unset, .unset] []) := by rw [h_hs2]; exact go20
  have go22 : Go p e below s₁ F0 T18 (mkF m 36 #[vr a1, vr a2, vi (0 : Int32), vi hs2, vi (2 : Int32), .unset, .unset] [(.ref a1)]) := by
    intro t_ k_
    refine go21 t_ ?_
    refine o_aloadN X18 hx (hb hby d4_35) rfl rfl ?_
    exact k_
  obtain ⟨T23, X23, e23, st23⟩ := getF X18 hx hZ hown (host := "") (Or.inl (own_w hw 17 rfl)) Via.refl e18 Fsl (g := (mkF m 36 #[vr a1, vr a2, vi (0 : Int32), vi hs2, vi (2 : Int32), .unset, .unset] [(.ref a1)])) rfl rfl (hb hby d4_36)
  have go24 : Go p e below s₁ F0 T23 (mkF m 39 #[vr a1, vr a2, vi (0 : Int32), vi hs2, vi (2 : Int32), .unset, .unset] [(.ref bs)]) := fun t_ k_ => go22 t_ (st23 t_ k_)
  obtain ⟨cl25, Ar25, -, Sz25, Nn25, -, -⟩ := id Vs
  have go26 : Go p e below s₁ F0 T23 (mkF m 47 #[vr a1, vr a2, vi (0 : Int32), vi hs2, vi (31 : Int32), .unset, .unset] [(.int (31 : Int32)), (.int hs2)]) := by
    intro t_ k_
    refine go24 t_ ?_
    refine o_len X23 hx hZ e23 Ar25 Sz25 Nn25 (hb hby d4_39) ?_
    refine o_iconst X23 hx (hb hby d4_40) (v := 1) rfl ?_
    refine o_isubE X23 hx (hb hby d4_41) (v := 31) rfl ?_
    refine o_istore X23 hx (hb hby d4_42) (L' := #[vr a1, vr a2, vi (0 : Int32), vi hs2, vi (31 : Int32), .unset, .unset]) rfl ?_
    refine o_iloadN X23 hx (hb hby d4_44) rfl ?_
    refine o_iload X23 hx (hb hby d4_45) rfl ?_
    exact k_
  obtain ⟨_, _, ⟨T27, L27, k27, n27⟩, -, X27, ⟨Lc27, hQ27, l27, y27, z27⟩, st27⟩ := Jvm.LawKit.callS X23 hx (y := y_1) hown (mvT hZ (own_w hw 32 rfl)) (mvT hZ (own_w hw 33 rfl)) (mvT hZ (own_w hw 3 rfl)) (mvT hZ (own_w hw 34 rfl)) (by decide) (backOf (W := 0) (rm6 l Z a0 hw [] hs2 (31 : Int32) h0 n0 Z0 ) hZ (own_w hw 34 rfl) (own_w hw 3 rfl) (by decide) (by decide)) (g := (mkF m 47 #[vr a1, vr a2, vi (0 : Int32), vi hs2, vi (31 : Int32), .unset, .unset] [(.int (31 : Int32)), (.int hs2)])) rfl (by rw [hml]; rfl) (argsL := [(.int hs2), (.int (31 : Int32))]) (rest := []) (lenOf pd4_b2_1 rfl) rfl (by show 2 * 0 + _ ≤ _; exact Nat.le_of_eq rfl) (hb hby d4_47) (fun _ _ => ⟨rfl, e23, (by decide : 0 + 0 ≤ _), (by decide : 0 + 0 ≤ _)⟩)
  dsimp only [Pt.U, Pt.locs, Pt.cells, Pt.slots] at X27 l27 y27 z27 st27 hQ27
  subst l27 y27 z27
  obtain ⟨rfl, Nq27, eh27⟩ := hQ27
  have N27 := Fr.app N15 Nq27
  have go28 : Go p e below s₁ F0 T27 (mkF m 50 #[vr a1, vr a2, vi (0 : Int32), vi hs2, vi (31 : Int32), .unset, .unset] [(.int (f6 hs2 (31 : Int32)))]) := fun t_ k_ => go26 t_ (st27 t_ k_)
  have go29 : Go p e below s₁ F0 T27 (mkF m 52 #[vr a1, vr a2, vi (0 : Int32), vi hs2, vi (31 : Int32), vi (f6 hs2 (31 : Int32)), .unset] []) := by
    intro t_ k_
    refine go28 t_ ?_
    refine o_istore X27 hx (hb hby d4_50) (L' := #[vr a1, vr a2, vi (0 : Int32), vi hs2, vi (31 : Int32), vi (f6 hs2 (31 : Int32)), .unset]) rfl ?_
    exact k_
  obtain ⟨t, h_t⟩ : ∃ z : Int32, z = (f6 hs2 (31 : Int32)) := ⟨_, rfl⟩
  have go30 : Go p e below s₁ F0 T27 (mkF m 52 #[vr a1, vr a2, vi (0 : Int32), vi hs2, vi (31 : Int32), vi t, .unset] []) := by rw [h_t]; exact go29
  by_cases hb52_31 : t = sl
  · skip
    have go32 : Go p e below s₁ F0 T27 (mkF m 53 #[vr a1, vr a2, vi (0 : Int32), vi hs2, vi (31 : Int32), vi t, .unset] [(.ref a1)]) := by
      intro t_ k_
      refine go30 t_ ?_
      refine o_aloadN X27 hx (hb hby d4_52) rfl rfl ?_
      exact k_
    obtain ⟨T33, X33, e33, st33⟩ := getF X27 hx hZ hown (host := "") (Or.inl (own_w hw 17 rfl)) Via.refl eh27 Fsl (g := (mkF m 53 #[vr a1, vr a2, vi (0 : Int32), vi hs2, vi (31 : Int32), vi t, .unset] [(.ref a1)])) rfl rfl (hb hby d4_53)
    have go34 : Go p e below s₁ F0 T33 (mkF m 56 #[vr a1, vr a2, vi (0 : Int32), vi hs2, vi (31 : Int32), vi t, .unset] [(.ref bs)]) := fun t_ k_ => go32 t_ (st33 t_ k_)
    have go35 : Go p e below s₁ F0 T33 (mkF m 58 #[vr a1, vr a2, vi (0 : Int32), vi hs2, vi (31 : Int32), vi t, .unset] [(.int t), (.ref bs)]) := by
      intro t_ k_
      refine go34 t_ ?_
      refine o_iload X33 hx (hb hby d4_56) rfl ?_
      exact k_
    obtain ⟨cl36, Ar36, -, Sz36, Nn36, Hs36, -⟩ := id Vs
    have hin36 : ¬ (t < 0 ∨ cl36.slots.size ≤ (t).toNatClampNeg) := inb_of Sz36 (own_in h_t)
    have hat36 : cl36.slots[(t).toNatClampNeg]? = some (.int (1 : Int32)) := Hs36.at hin36 (own_hit (own_in hsl) hb52_31)
    have go37 : Go p e below s₁ F0 T33 (mkF m 63 #[vr a1, vr a2, vi (0 : Int32), vi hs2, vi (31 : Int32), vi t, .unset] [(.ref a1)]) := by
      intro t_ k_
      refine go35 t_ ?_
      refine o_iaload X33 hx hZ e33 Ar36 hin36 hat36 (hb hby d4_58) ?_
      refine o_ifNo X33 hx (hb hby d4_59) ((if0 _ _).trans (feq (by decide : ¬ ((1 : Int32) = (0 : Int32)))).1) ?_
      refine o_aloadN X33 hx (hb hby d4_62) rfl rfl ?_
      exact k_
    obtain ⟨T38, X38, e38, st38⟩ := getF X33 hx hZ hown (host := "") (Or.inl (own_w hw 17 rfl)) Via.refl e33 Fsl (g := (mkF m 63 #[vr a1, vr a2, vi (0 : Int32), vi hs2, vi (31 : Int32), vi t, .unset] [(.ref a1)])) rfl rfl (hb hby d4_63)
    have go39 : Go p e below s₁ F0 T38 (mkF m 66 #[vr a1, vr a2, vi (0 : Int32), vi hs2, vi (31 : Int32), vi t, .unset] [(.ref bs)]) := fun t_ k_ => go37 t_ (st38 t_ k_)
    have go40 : Go p e below s₁ F0 T38 (mkF m 68 #[vr a1, vr a2, vi (0 : Int32), vi hs2, vi (31 : Int32), vi t, .unset] [(.int t), (.ref bs)]) := by
      intro t_ k_
      refine go39 t_ ?_
      refine o_iload X38 hx (hb hby d4_66) rfl ?_
      exact k_
    obtain ⟨cl41, Ar41, -, Sz41, Nn41, Hs41, -⟩ := id Vs
    have hin41 : ¬ (t < 0 ∨ cl41.slots.size ≤ (t).toNatClampNeg) := inb_of Sz41 (own_in h_t)
    have hat41 : cl41.slots[(t).toNatClampNeg]? = some (.int (1 : Int32)) := Hs41.at hin41 (own_hit (own_in hsl) hb52_31)
    have go42 : Go p e below s₁ F0 T38 (mkF m 74 #[vr a1, vr a2, vi (0 : Int32), vi hs2, vi (31 : Int32), vi t, vi (0 : Int32)] [(.ref a1)]) := by
      intro t_ k_
      refine go40 t_ ?_
      refine o_iaload X38 hx hZ e38 Ar41 hin41 hat41 (hb hby d4_68) ?_
      refine o_iconst X38 hx (hb hby d4_69) (v := 1) rfl ?_
      refine o_isubE X38 hx (hb hby d4_70) (v := 0) rfl ?_
      refine o_istore X38 hx (hb hby d4_71) (L' := #[vr a1, vr a2, vi (0 : Int32), vi hs2, vi (31 : Int32), vi t, vi (0 : Int32)]) rfl ?_
      refine o_aloadN X38 hx (hb hby d4_73) rfl rfl ?_
      exact k_
    obtain ⟨T43, X43, e43, st43⟩ := getF X38 hx hZ hown (host := "") (Or.inl (own_w hw 15 rfl)) Via.refl e38 Fha (g := (mkF m 74 #[vr a1, vr a2, vi (0 : Int32), vi hs2, vi (31 : Int32), vi t, vi (0 : Int32)] [(.ref a1)])) rfl rfl (hb hby d4_74)
    have go44 : Go p e below s₁ F0 T43 (mkF m 77 #[vr a1, vr a2, vi (0 : Int32), vi hs2, vi (31 : Int32), vi t, vi (0 : Int32)] [(.ref bh)]) := fun t_ k_ => go42 t_ (st43 t_ k_)
    have go45 : Go p e below s₁ F0 T43 (mkF m 79 #[vr a1, vr a2, vi (0 : Int32), vi hs2, vi (31 : Int32), vi t, vi (0 : Int32)] [(.int (0 : Int32)), (.ref bh)]) := by
      intro t_ k_
      refine go44 t_ ?_
      refine o_iload X43 hx (hb hby d4_77) rfl ?_
      exact k_
    obtain ⟨cl46, Ar46, -, Sz46, Nn46, Hs46, -⟩ := id Vh
    have hin46 : ¬ ((0 : Int32) < 0 ∨ cl46.slots.size ≤ ((0 : Int32)).toNatClampNeg) := inb_of Sz46 ⟨by decide, by decide⟩
    have hat46 : cl46.slots[((0 : Int32)).toNatClampNeg]? = some (.int hs) := Hs46.at hin46 rfl
    have go47 : Go p e below s₁ F0 T43 (mkF m 81 #[vr a1, vr a2, vi (0 : Int32), vi hs2, vi (31 : Int32), vi t, vi (0 : Int32)] [(.int hs2), (.int hs)]) := by
      intro t_ k_
      refine go45 t_ ?_
      refine o_iaload X43 hx hZ e43 Ar46 hin46 hat46 (hb hby d4_79) ?_
      refine o_iloadN X43 hx (hb hby d4_80) rfl ?_
      exact k_
    by_cases hc81_48 : hs = hs2
    · skip
      have go49 : Go p e below s₁ F0 T43 (mkF m 89 #[vr a1, vr a2, vi (0 : Int32), vi hs2, vi (31 : Int32), vi t, vi (0 : Int32)] [(.int (0 : Int32)), (.ref a2), (.int (0 : Int32)), (.ref a1)]) := by
        intro t_ k_
        refine go47 t_ ?_
        refine o_icmpNo X43 hx (hb hby d4_81) (teq hc81_48).2 ?_
        refine o_aloadN X43 hx (hb hby d4_84) rfl rfl ?_
        refine o_iload X43 hx (hb hby d4_85) rfl ?_
        refine o_aloadN X43 hx (hb hby d4_87) rfl rfl ?_
        refine o_iloadN X43 hx (hb hby d4_88) rfl ?_
        exact k_
      obtain ⟨cq50, q50, q50'⟩ := E0.cell
      obtain ⟨_, _, ⟨T50, L50, k50, n50⟩, -, X50, ⟨Lc50, hQ50, l50, y50, z50⟩, st50⟩ := X43.privateBack hx (y := y_5) hown (mvT hZ (own_w hw 42 rfl)) (mvT hZ (own_w hw 43 rfl)) (own_selp (mvT hZ (own_w hw 2 rfl)) (mvP hZ (own_w hw 44 rfl)) (mvT hZ (own_w hw 43 rfl)) (by decide)) (Cond.privateMethod_at (mvP hZ (own_w hw 44 rfl) (args := #[]))) (mvT hZ (own_w hw 45 rfl)) (by decide) (backOf (W := 0) (rm7_2 l Z a0 hw [] a1 a2 bw kw k2 x0 x1 y0 y1 h0 n0 Z0 Fwi Fwo Vw V2) hZ (own_w hw 45 rfl) (own_w hw 3 rfl) (by decide) (by decide)) (g := (mkF m 89 #[vr a1, vr a2, vi (0 : Int32), vi hs2, vi (31 : Int32), vi t, vi (0 : Int32)] [(.int (0 : Int32)), (.ref a2), (.int (0 : Int32)), (.ref a1)])) rfl (by rw [hml]; rfl) (Steps.refl _) (a := a1) (by rw [e43]; exact q50) q50' (argsL := [(.int (0 : Int32)), (.ref a2), (.int (0 : Int32))]) (rest := []) (lenOf pd4_b2_2 rfl) rfl (by show 2 * 0 + _ ≤ _; exact Nat.le_of_eq rfl) (hb hby d4_89) (fun _ _ => ⟨rfl, e43, (by decide : 0 + 0 ≤ _), (by decide : 0 + 0 ≤ _)⟩)
      dsimp only [Pt.U, Pt.locs, Pt.cells, Pt.slots] at X50 l50 y50 z50 st50 hQ50
      subst l50 y50 z50
      obtain ⟨rfl, Nq50, eh50⟩ := hQ50
      have N50 := Fr.app N27 Nq50
      have go51 : Go p e below s₁ F0 T50 (mkF m 92 #[vr a1, vr a2, vi (0 : Int32), vi hs2, vi (31 : Int32), vi t, vi (0 : Int32)] [(.int (f7_2 x0 x1 y0 y1))]) := fun t_ k_ => go49 t_ (st50.trans k_)
      by_cases hc92_52 : (f7_2 x0 x1 y0 y1) = (0 : Int32)
      · skip
        have go54 : Go p e below s₁ F0 T50 (mkF m 52 #[vr a1, vr a2, vi (0 : Int32), vi hs2, vi (31 : Int32), vi ((t + (1 : Int32)) &&& (31 : Int32)), vi (0 : Int32)] []) := by
          intro t_ k_
          refine go51 t_ ?_
          refine o_ifYes X50 hx (hb hby d4_92) (pc' := 98) rfl (by decide) ((if0 _ _).trans (teq hc92_52).1) ?_
          refine o_iload X50 hx (hb hby d4_98) rfl ?_
          refine o_iconst X50 hx (hb hby d4_100) (v := 1) rfl ?_
          refine o_iadd X50 hx (hb hby d4_101) ?_
          refine o_iload X50 hx (hb hby d4_102) rfl ?_
          refine o_iand X50 hx (hb hby d4_104) ?_
          refine o_istore X50 hx (hb hby d4_105) (L' := #[vr a1, vr a2, vi (0 : Int32), vi hs2, vi (31 : Int32), vi ((t + (1 : Int32)) &&& (31 : Int32)), vi (0 : Int32)]) rfl ?_
          refine o_goto X50 hx (hb hby d4_107) (pc' := 52) rfl (by decide) ?_
          exact k_
        obtain ⟨t53, h_t53⟩ : ∃ z : Int32, z = ((t + (1 : Int32)) &&& (31 : Int32)) := ⟨_, rfl⟩
        have go55 : Go p e below s₁ F0 T50 (mkF m 52 #[vr a1, vr a2, vi (0 : Int32), vi hs2, vi (31 : Int32), vi t53, vi (0 : Int32)] []) := by rw [h_t53]; exact go54
        have go56 : Go p e below s₁ F0 T50 (mkF m 53 #[vr a1, vr a2, vi (0 : Int32), vi hs2, vi (31 : Int32), vi t53, vi (0 : Int32)] [(.ref a1)]) := by
          intro t_ k_
          refine go55 t_ ?_
          refine o_aloadN X50 hx (hb hby d4_52) rfl rfl ?_
          exact k_
        obtain ⟨T57, X57, e57, st57⟩ := getF X50 hx hZ hown (host := "") (Or.inl (own_w hw 17 rfl)) Via.refl eh50 Fsl (g := (mkF m 53 #[vr a1, vr a2, vi (0 : Int32), vi hs2, vi (31 : Int32), vi t53, vi (0 : Int32)] [(.ref a1)])) rfl rfl (hb hby d4_53)
        have go58 : Go p e below s₁ F0 T57 (mkF m 56 #[vr a1, vr a2, vi (0 : Int32), vi hs2, vi (31 : Int32), vi t53, vi (0 : Int32)] [(.ref bs)]) := fun t_ k_ => go56 t_ (st57 t_ k_)
        have go59 : Go p e below s₁ F0 T57 (mkF m 58 #[vr a1, vr a2, vi (0 : Int32), vi hs2, vi (31 : Int32), vi t53, vi (0 : Int32)] [(.int t53), (.ref bs)]) := by
          intro t_ k_
          refine go58 t_ ?_
          refine o_iload X57 hx (hb hby d4_56) rfl ?_
          exact k_
        obtain ⟨cl60, Ar60, -, Sz60, Nn60, Hs60, -⟩ := id Vs
        have hin60 : ¬ (t53 < 0 ∨ cl60.slots.size ≤ (t53).toNatClampNeg) := inb_of Sz60 (own_in2 h_t53)
        have hat60 : cl60.slots[(t53).toNatClampNeg]? = some (.int (0 : Int32)) := Hs60.at hin60 (own_miss (own_in2 h_t53) (own_in hsl) (own_next (own_in hsl) hb52_31 h_t53))
        have go61 : Go p e below s₁ F0 T57 (mkF m 112 #[vr a1, vr a2, vi (0 : Int32), vi hs2, vi (31 : Int32), vi t53, vi (0 : Int32)] [(.ref a1), (.ref a1)]) := by
          intro t_ k_
          refine go59 t_ ?_
          refine o_iaload X57 hx hZ e57 Ar60 hin60 hat60 (hb hby d4_58) ?_
          refine o_ifYes X57 hx (hb hby d4_59) (pc' := 110) rfl (by decide) ((if0 _ _).trans (teq (by decide : (0 : Int32) = (0 : Int32))).1) ?_
          refine o_aloadN X57 hx (hb hby d4_110) rfl rfl ?_
          refine o_dup X57 hx (hb hby d4_111) rfl ?_
          exact k_
        obtain ⟨T62, X62, e62, st62⟩ := getF X57 hx hZ hown (host := "") (Or.inl (own_w hw 36 rfl)) Via.refl e57 Fco (g := (mkF m 112 #[vr a1, vr a2, vi (0 : Int32), vi hs2, vi (31 : Int32), vi t53, vi (0 : Int32)] [(.ref a1), (.ref a1)])) rfl rfl (hb hby d4_112)
        have go63 : Go p e below s₁ F0 T62 (mkF m 115 #[vr a1, vr a2, vi (0 : Int32), vi hs2, vi (31 : Int32), vi t53, vi (0 : Int32)] [(.int (1 : Int32)), (.ref a1)]) := fun t_ k_ => go61 t_ (st62 t_ k_)
        have go64 : Go p e below s₁ F0 T62 (mkF m 118 #[vr a1, vr a2, vi (0 : Int32), vi hs2, vi (31 : Int32), vi t53, vi (0 : Int32)] [(.int (2 : Int32)), (.ref a1), (.int (1 : Int32))]) := by
          intro t_ k_
          refine go63 t_ ?_
          refine o_dupX1 X62 hx (hb hby d4_115) rfl rfl ?_
          refine o_iconst X62 hx (hb hby d4_116) (v := 1) rfl ?_
          refine o_iaddE X62 hx (hb hby d4_117) (v := 2) rfl ?_
          exact k_
        obtain ⟨T65, h65, X65, e65, W65, st65⟩ := putF X62 hx hZ hown (host := "") (Or.inl (own_w hw 36 rfl)) Via.refl e62 Fco E0 (Or.inl (own_w hw 37 rfl)) (own_w hw 2 rfl) (ty := .int) (by decide) rfl rfl (g := (mkF m 118 #[vr a1, vr a2, vi (0 : Int32), vi hs2, vi (31 : Int32), vi t53, vi (0 : Int32)] [(.int (2 : Int32)), (.ref a1), (.int (1 : Int32))])) rfl rfl (hb hby d4_118)
        have Fw65 : Fld Z h65 a1 c_0 "count" "I" (.int (2 : Int32)) := Fld.same W65 Fco
        have K66 : Keep h0 h65 [a1, bw, bh, bs] := K0.wr W65 (Or.inl (List.mem_of_getElem? (i := 0) rfl))
        have Z66 : n0 ≤ h65.size := Nat.le_trans Z0 (Keep.of_wr W65).1
        have N65 := Fr.snoc X65 N50 g1
        have go67 : Go p e below s₁ F0 T65 (mkF m 121 #[vr a1, vr a2, vi (0 : Int32), vi hs2, vi (31 : Int32), vi t53, vi (0 : Int32)] [(.int (1 : Int32))]) := fun t_ k_ => go64 t_ (st65 t_ k_)
        have F68 : Fld Z h65 a1 c_0 "hashes" "[I" (.ref bh) := (Fha.other W65 (Or.inr (slot_ne (Or.inl (own_w hw 16 rfl)) (Or.inl (own_w hw 37 rfl)) (by decide) (t := (.array .int)) (t' := .int) (by decide) (by decide))))
        have go69 : Go p e below s₁ F0 T65 (mkF m 126 #[vr a1, vr a2, vi (0 : Int32), vi hs2, vi (31 : Int32), vi t53, vi (1 : Int32)] [(.ref a1), (.int (1 : Int32))]) := by
          intro t_ k_
          refine go67 t_ ?_
          refine o_istore X65 hx (hb hby d4_121) (L' := #[vr a1, vr a2, vi (0 : Int32), vi hs2, vi (31 : Int32), vi t53, vi (1 : Int32)]) rfl ?_
          refine o_iload X65 hx (hb hby d4_123) rfl ?_
          refine o_aloadN X65 hx (hb hby d4_125) rfl rfl ?_
          exact k_
        obtain ⟨T70, X70, e70, st70⟩ := getF X65 hx hZ hown (host := "") (Or.inl (own_w hw 15 rfl)) Via.refl e65 F68 (g := (mkF m 126 #[vr a1, vr a2, vi (0 : Int32), vi hs2, vi (31 : Int32), vi t53, vi (1 : Int32)] [(.ref a1), (.int (1 : Int32))])) rfl rfl (hb hby d4_126)
        have go71 : Go p e below s₁ F0 T70 (mkF m 129 #[vr a1, vr a2, vi (0 : Int32), vi hs2, vi (31 : Int32), vi t53, vi (1 : Int32)] [(.ref bh), (.int (1 : Int32))]) := fun t_ k_ => go69 t_ (st70 t_ k_)
        have F72 : Arv Z h65 bh kh .int (16 : Int32) ((.int hs) :: own_zi 15) (.int (0 : Int32)) := (Vh.other W65 (Ne.symm nah))
        obtain ⟨cl73, Ar73, -, Sz73, Nn73, -, -⟩ := id F72
        have F74 : Fld Z h65 a1 c_0 "words" "[J" (.ref bw) := (Fwo.other W65 (Or.inr (slot_ne (Or.inl (own_w hw 13 rfl)) (Or.inl (own_w hw 37 rfl)) (by decide) (t := (.array .long)) (t' := .int) (by decide) (by decide))))
        have go75 : Go p e below s₁ F0 T70 (mkF m 171 #[vr a1, vr a2, vi (0 : Int32), vi hs2, vi (31 : Int32), vi t53, vi (1 : Int32)] [(.ref a1), (.int (0 : Int32)), (.ref a2)]) := by
          intro t_ k_
          refine go71 t_ ?_
          refine o_len X70 hx hZ e70 Ar73 Sz73 Nn73 (hb hby d4_129) ?_
          refine o_icmpYes X70 hx (hb hby d4_130) (pc' := 168) rfl (by decide) (feq (by decide : ¬ ((1 : Int32) = (16 : Int32)))).2 ?_
          refine o_aloadN X70 hx (hb hby d4_168) rfl rfl ?_
          refine o_iloadN X70 hx (hb hby d4_169) rfl ?_
          refine o_aloadN X70 hx (hb hby d4_170) rfl rfl ?_
          exact k_
        obtain ⟨T76, X76, e76, st76⟩ := getF X70 hx hZ hown (host := "") (Or.inl (own_w hw 12 rfl)) Via.refl e70 F74 (g := (mkF m 171 #[vr a1, vr a2, vi (0 : Int32), vi hs2, vi (31 : Int32), vi t53, vi (1 : Int32)] [(.ref a1), (.int (0 : Int32)), (.ref a2)])) rfl rfl (hb hby d4_171)
        have go77 : Go p e below s₁ F0 T76 (mkF m 174 #[vr a1, vr a2, vi (0 : Int32), vi hs2, vi (31 : Int32), vi t53, vi (1 : Int32)] [(.ref bw), (.int (0 : Int32)), (.ref a2)]) := fun t_ k_ => go75 t_ (st76 t_ k_)
        have F78 : Fld Z h65 a1 c_0 "width" "I" (.int (2 : Int32)) := (Fwi.other W65 (Or.inr (slot_ne (Or.inr (own_w hw 11 rfl)) (Or.inl (own_w hw 37 rfl)) (by decide) (t := .int) (t' := .int) (by decide) (by decide))))
        have go79 : Go p e below s₁ F0 T76 (mkF m 177 #[vr a1, vr a2, vi (0 : Int32), vi hs2, vi (31 : Int32), vi t53, vi (1 : Int32)] [(.ref a1), (.int (1 : Int32)), (.ref bw), (.int (0 : Int32)), (.ref a2)]) := by
          intro t_ k_
          refine go77 t_ ?_
          refine o_iload X76 hx (hb hby d4_174) rfl ?_
          refine o_aloadN X76 hx (hb hby d4_176) rfl rfl ?_
          exact k_
        obtain ⟨T80, X80, e80, st80⟩ := getF X76 hx hZ hown (host := "") (Or.inl (own_w hw 10 rfl)) Via.refl e76 F78 (g := (mkF m 177 #[vr a1, vr a2, vi (0 : Int32), vi hs2, vi (31 : Int32), vi t53, vi (1 : Int32)] [(.ref a1), (.int (1 : Int32)), (.ref bw), (.int (0 : Int32)), (.ref a2)])) rfl rfl (hb hby d4_177)
        have go81 : Go p e below s₁ F0 T80 (mkF m 180 #[vr a1, vr a2, vi (0 : Int32), vi hs2, vi (31 : Int32), vi t53, vi (1 : Int32)] [(.int (2 : Int32)), (.int (1 : Int32)), (.ref bw), (.int (0 : Int32)), (.ref a2)]) := fun t_ k_ => go79 t_ (st80 t_ k_)
        have go82 : Go p e below s₁ F0 T80 (mkF m 182 #[vr a1, vr a2, vi (0 : Int32), vi hs2, vi (31 : Int32), vi t53, vi (1 : Int32)] [(.ref a1), (.int (2 : Int32)), (.ref bw), (.int (0 : Int32)), (.ref a2)]) := by
          intro t_ k_
          refine go81 t_ ?_
          refine o_imulE X80 hx (hb hby d4_180) (v := 2) rfl ?_
          refine o_aloadN X80 hx (hb hby d4_181) rfl rfl ?_
          exact k_
        obtain ⟨T83, X83, e83, st83⟩ := getF X80 hx hZ hown (host := "") (Or.inl (own_w hw 10 rfl)) Via.refl e80 F78 (g := (mkF m 182 #[vr a1, vr a2, vi (0 : Int32), vi hs2, vi (31 : Int32), vi t53, vi (1 : Int32)] [(.ref a1), (.int (2 : Int32)), (.ref bw), (.int (0 : Int32)), (.ref a2)])) rfl rfl (hb hby d4_182)
        have go84 : Go p e below s₁ F0 T83 (mkF m 185 #[vr a1, vr a2, vi (0 : Int32), vi hs2, vi (31 : Int32), vi t53, vi (1 : Int32)] [(.int (2 : Int32)), (.int (2 : Int32)), (.ref bw), (.int (0 : Int32)), (.ref a2)]) := fun t_ k_ => go82 t_ (st83 t_ k_)
        have F85 : Arv Z h65 a2 k2 .long (2 : Int32) [(.long y0), (.long y1)] (.long (0 : Int64)) := (V2.other W65 (Ne.symm n12))
        have F86 : Arv Z h65 bw kw .long (32 : Int32) ((.long x0) :: (.long x1) :: own_zl 30) (.long (0 : Int64)) := (Vw.other W65 (Ne.symm naw))
        obtain ⟨T87, h87, L87, X87, e87, N87, Kc87, Vc87, st87⟩ := cpA X83 hx hZ hown (own_w hw 38 rfl) (own_w hw 41 rfl) (own_w hw 39 rfl) (own_w hw 40 rfl) e83 F85 F86 (Or.inl ⟨rfl, rfl⟩) (by decide) (by decide) (by decide) (by decide) (by decide) (us := [(.long y0), (.long y1)]) rfl (Nat.le_of_ble_eq_true rfl) N65 gw (g := (mkF m 185 #[vr a1, vr a2, vi (0 : Int32), vi hs2, vi (31 : Int32), vi t53, vi (1 : Int32)] [(.int (2 : Int32)), (.int (2 : Int32)), (.ref bw), (.int (0 : Int32)), (.ref a2)])) rfl (by rw [hml]; rfl) rfl (hb hby d4_185) (by decide) (W := 0) (by show 2 * 0 + _ ≤ _; exact Nat.le_of_eq rfl) (by decide)
        have V87 : Arv Z h87 bw kw .long (32 : Int32) ((.long x0) :: (.long x1) :: (.long y0) :: (.long y1) :: own_zl 28) (.long (0 : Int64)) := Vc87
        have K88 : Keep h0 h87 [a1, bw, bh, bs] := K66.trans Kc87 (allS (Or.inl (List.mem_of_getElem? (i := 1) rfl)) all0)
        have Z88 : n0 ≤ h87.size := Nat.le_trans Z66 Kc87.1
        have go89 : Go p e below s₁ F0 T87 (mkF m 188 #[vr a1, vr a2, vi (0 : Int32), vi hs2, vi (31 : Int32), vi t53, vi (1 : Int32)] []) := fun t_ k_ => go84 t_ (st87 t_ k_)
        have F90 : Fld Z h87 a1 c_0 "hashes" "[I" (.ref bh) := (F68.keep Kc87 (ninS naw nin0))
        have go91 : Go p e below s₁ F0 T87 (mkF m 189 #[vr a1, vr a2, vi (0 : Int32), vi hs2, vi (31 : Int32), vi t53, vi (1 : Int32)] [(.ref a1)]) := by
          intro t_ k_
          refine go89 t_ ?_
          refine o_aloadN X87 hx (hb hby d4_188) rfl rfl ?_
          exact k_
        obtain ⟨T92, X92, e92, st92⟩ := getF X87 hx hZ hown (host := "") (Or.inl (own_w hw 15 rfl)) Via.refl e87 F90 (g := (mkF m 189 #[vr a1, vr a2, vi (0 : Int32), vi hs2, vi (31 : Int32), vi t53, vi (1 : Int32)] [(.ref a1)])) rfl rfl (hb hby d4_189)
        have go93 : Go p e below s₁ F0 T92 (mkF m 192 #[vr a1, vr a2, vi (0 : Int32), vi hs2, vi (31 : Int32), vi t53, vi (1 : Int32)] [(.ref bh)]) := fun t_ k_ => go91 t_ (st92 t_ k_)
        have F94 : Arv Z h87 bh kh .int (16 : Int32) ((.int hs) :: own_zi 15) (.int (0 : Int32)) := (F72.keep Kc87 (ninS (Ne.symm nwh) nin0))
        have go95 : Go p e below s₁ F0 T92 (mkF m 195 #[vr a1, vr a2, vi (0 : Int32), vi hs2, vi (31 : Int32), vi t53, vi (1 : Int32)] [(.int hs2), (.int (1 : Int32)), (.ref bh)]) := by
          intro t_ k_
          refine go93 t_ ?_
          refine o_iload X92 hx (hb hby d4_192) rfl ?_
          refine o_iloadN X92 hx (hb hby d4_194) rfl ?_
          exact k_
        obtain ⟨cl96, Ar96, q96, Sz96, Nn96, Hs96, G96⟩ := id F94
        have hin96 : ¬ ((1 : Int32) < 0 ∨ cl96.slots.size ≤ ((1 : Int32)).toNatClampNeg) := inb_of Sz96 ⟨by decide, by decide⟩
        obtain ⟨T96, h96, X96, e96, W96, st96⟩ := stI X92 hx hZ e92 Ar96 (j := (1 : Int32)) hin96 (g := (mkF m 195 #[vr a1, vr a2, vi (0 : Int32), vi hs2, vi (31 : Int32), vi t53, vi (1 : Int32)] [(.int hs2), (.int (1 : Int32)), (.ref bh)])) rfl rfl (hb hby d4_195)
        have V96 : Arv Z h96 bh kh .int (16 : Int32) ((.int hs) :: (.int hs2) :: own_zi 14) (.int (0 : Int32)) := Arv.set Ar96 q96 Sz96 Nn96 Hs96 G96 rfl W96 1 rfl (Nat.le_of_ble_eq_true rfl)
        have K97 : Keep h0 h96 [a1, bw, bh, bs] := K88.wr W96 (Or.inl (List.mem_of_getElem? (i := 2) rfl))
        have Z97 : n0 ≤ h96.size := Nat.le_trans Z88 (Keep.of_wr W96).1
        have N96 := Fr.snoc X96 N87 gh
        have go98 : Go p e below s₁ F0 T96 (mkF m 196 #[vr a1, vr a2, vi (0 : Int32), vi hs2, vi (31 : Int32), vi t53, vi (1 : Int32)] []) := fun t_ k_ => go95 t_ (st96 t_ k_)
        have F99 : Fld Z h96 a1 c_0 "slots" "[I" (.ref bs) := (((Fsl.other W65 (Or.inr (slot_ne (Or.inl (own_w hw 18 rfl)) (Or.inl (own_w hw 37 rfl)) (by decide) (t := (.array .int)) (t' := .int) (by decide) (by decide)))).keep Kc87 (ninS naw nin0)).other W96 (Or.inl nah))
        have go100 : Go p e below s₁ F0 T96 (mkF m 197 #[vr a1, vr a2, vi (0 : Int32), vi hs2, vi (31 : Int32), vi t53, vi (1 : Int32)] [(.ref a1)]) := by
          intro t_ k_
          refine go98 t_ ?_
          refine o_aloadN X96 hx (hb hby d4_196) rfl rfl ?_
          exact k_
        obtain ⟨T101, X101, e101, st101⟩ := getF X96 hx hZ hown (host := "") (Or.inl (own_w hw 17 rfl)) Via.refl e96 F99 (g := (mkF m 197 #[vr a1, vr a2, vi (0 : Int32), vi hs2, vi (31 : Int32), vi t53, vi (1 : Int32)] [(.ref a1)])) rfl rfl (hb hby d4_197)
        have go102 : Go p e below s₁ F0 T101 (mkF m 200 #[vr a1, vr a2, vi (0 : Int32), vi hs2, vi (31 : Int32), vi t53, vi (1 : Int32)] [(.ref bs)]) := fun t_ k_ => go100 t_ (st101 t_ k_)
        have F103 : Arv Z h96 bs ks .int (32 : Int32) (own_sl sl) (.int (0 : Int32)) := (((Vs.other W65 (Ne.symm nas)).keep Kc87 (ninS (Ne.symm nws) nin0)).other W96 (Ne.symm nhs))
        have go104 : Go p e below s₁ F0 T101 (mkF m 206 #[vr a1, vr a2, vi (0 : Int32), vi hs2, vi (31 : Int32), vi t53, vi (1 : Int32)] [(.int (2 : Int32)), (.int t53), (.ref bs)]) := by
          intro t_ k_
          refine go102 t_ ?_
          refine o_iload X101 hx (hb hby d4_200) rfl ?_
          refine o_iload X101 hx (hb hby d4_202) rfl ?_
          refine o_iconst X101 hx (hb hby d4_204) (v := 1) rfl ?_
          refine o_iaddE X101 hx (hb hby d4_205) (v := 2) rfl ?_
          exact k_
        obtain ⟨cl105, Ar105, q105, Sz105, Nn105, Hs105, G105⟩ := id F103
        have hin105 : ¬ (t53 < 0 ∨ cl105.slots.size ≤ (t53).toNatClampNeg) := inb_of Sz105 (own_in2 h_t53)
        obtain ⟨T105, h105, X105, e105, W105, st105⟩ := stI X101 hx hZ e101 Ar105 (j := t53) hin105 (g := (mkF m 206 #[vr a1, vr a2, vi (0 : Int32), vi hs2, vi (31 : Int32), vi t53, vi (1 : Int32)] [(.int (2 : Int32)), (.int t53), (.ref bs)])) rfl rfl (hb hby d4_206)
        have V105 : Arv Z h105 bs ks .int (32 : Int32) ((own_sl sl).set t53.toNatClampNeg (.int (2 : Int32))) (.int (0 : Int32)) := Arv.set Ar105 q105 Sz105 Nn105 Hs105 G105 rfl W105 t53.toNatClampNeg rfl (own_ls (own_in2 h_t53))
        have K106 : Keep h0 h105 [a1, bw, bh, bs] := K97.wr W105 (Or.inl (List.mem_of_getElem? (i := 3) rfl))
        have Z106 : n0 ≤ h105.size := Nat.le_trans Z97 (Keep.of_wr W105).1
        have N105 := Fr.snoc X105 N96 gs
        have go107 : Go p e below s₁ F0 T105 (mkF m 207 #[vr a1, vr a2, vi (0 : Int32), vi hs2, vi (31 : Int32), vi t53, vi (1 : Int32)] []) := fun t_ k_ => go104 t_ (st105 t_ k_)
        have F108 : Fld Z h105 a1 c_0 "count" "I" (.int (2 : Int32)) := (((Fw65.keep Kc87 (ninS naw nin0)).other W96 (Or.inl nah)).other W105 (Or.inl nas))
        have go109 : Go p e below s₁ F0 T105 (mkF m 209 #[vr a1, vr a2, vi (0 : Int32), vi hs2, vi (31 : Int32), vi t53, vi (1 : Int32)] [(.ref a1), (.int (2 : Int32))]) := by
          intro t_ k_
          refine go107 t_ ?_
          refine o_iconst X105 hx (hb hby d4_207) (v := 2) rfl ?_
          refine o_aloadN X105 hx (hb hby d4_208) rfl rfl ?_
          exact k_
        obtain ⟨T110, X110, e110, st110⟩ := getF X105 hx hZ hown (host := "") (Or.inl (own_w hw 36 rfl)) Via.refl e105 F108 (g := (mkF m 209 #[vr a1, vr a2, vi (0 : Int32), vi hs2, vi (31 : Int32), vi t53, vi (1 : Int32)] [(.ref a1), (.int (2 : Int32))])) rfl rfl (hb hby d4_209)
        have go111 : Go p e below s₁ F0 T110 (mkF m 212 #[vr a1, vr a2, vi (0 : Int32), vi hs2, vi (31 : Int32), vi t53, vi (1 : Int32)] [(.int (2 : Int32)), (.int (2 : Int32))]) := fun t_ k_ => go109 t_ (st110 t_ k_)
        have F112 : Fld Z h105 a1 c_0 "slots" "[I" (.ref bs) := (F99.other W105 (Or.inl nas))
        have go113 : Go p e below s₁ F0 T110 (mkF m 214 #[vr a1, vr a2, vi (0 : Int32), vi hs2, vi (31 : Int32), vi t53, vi (1 : Int32)] [(.ref a1), (.int (4 : Int32))]) := by
          intro t_ k_
          refine go111 t_ ?_
          refine o_imulE X110 hx (hb hby d4_212) (v := 4) rfl ?_
          refine o_aloadN X110 hx (hb hby d4_213) rfl rfl ?_
          exact k_
        obtain ⟨T114, X114, e114, st114⟩ := getF X110 hx hZ hown (host := "") (Or.inl (own_w hw 17 rfl)) Via.refl e110 F112 (g := (mkF m 214 #[vr a1, vr a2, vi (0 : Int32), vi hs2, vi (31 : Int32), vi t53, vi (1 : Int32)] [(.ref a1), (.int (4 : Int32))])) rfl rfl (hb hby d4_214)
        have go115 : Go p e below s₁ F0 T114 (mkF m 217 #[vr a1, vr a2, vi (0 : Int32), vi hs2, vi (31 : Int32), vi t53, vi (1 : Int32)] [(.ref bs), (.int (4 : Int32))]) := fun t_ k_ => go113 t_ (st114 t_ k_)
        obtain ⟨cl116, Ar116, -, Sz116, Nn116, -, -⟩ := id V105
        have go117 : Go p e below s₁ F0 T114 (mkF m 227 #[vr a1, vr a2, vi (0 : Int32), vi hs2, vi (31 : Int32), vi t53, vi (1 : Int32)] [(.int (1 : Int32))]) := by
          intro t_ k_
          refine go115 t_ ?_
          refine o_len X114 hx hZ e114 Ar116 Sz116 Nn116 (hb hby d4_217) ?_
          refine o_icmpYes X114 hx (hb hby d4_218) (pc' := 225) rfl (by decide) (flt (by decide : ¬ ((32 : Int32) < (4 : Int32)))).2.2.2 ?_
          refine o_iload X114 hx (hb hby d4_225) rfl ?_
          exact k_
        obtain ⟨fs, hr, hrun, hended, hW, hsame⟩ := X114.leave (v := some (.int (1 : Int32))) (fun h => by rw [Bd.returns] at h; cases h)
        refine ⟨_, _, pre0 _ (go117 _ ?_), hrun, hended, _, _, rfl, ?_, ⟨_, rfl⟩, hW, hsame.mono (by decide) (by decide)⟩
        · skip
          exact retI X114 hx Bd.returns (hb hby d4_227) hr
        · show Q4_b2 Z a1 a2 bw bh bs kw kh ks k2 hs sl x0 x1 y0 y1 h0 n0 _ T114.heap _
          rw [e114]
          have F118 : Fld Z h105 a1 c_0 "width" "I" (.int (2 : Int32)) := (((F78.keep Kc87 (ninS naw nin0)).other W96 (Or.inl nah)).other W105 (Or.inl nas))
          have F119 : Fld Z h105 a1 c_0 "words" "[J" (.ref bw) := (((F74.keep Kc87 (ninS naw nin0)).other W96 (Or.inl nah)).other W105 (Or.inl nas))
          have F120 : Arv Z h105 bw kw .long (32 : Int32) ((.long x0) :: (.long x1) :: (.long y0) :: (.long y1) :: own_zl 28) (.long (0 : Int64)) := ((V87.other W96 nwh).other W105 nws)
          exact ⟨(1 : Int32), y0, y1, rfl, N105, K106, F118, F119, F120, (Or.inr ⟨rfl, (own_neW_2 hc92_52), rfl, rfl⟩)⟩
      · skip
        have go121 : Go p e below s₁ F0 T50 (mkF m 97 #[vr a1, vr a2, vi (0 : Int32), vi hs2, vi (31 : Int32), vi t, vi (0 : Int32)] [(.int (0 : Int32))]) := by
          intro t_ k_
          refine go51 t_ ?_
          refine o_ifNo X50 hx (hb hby d4_92) ((if0 _ _).trans (feq hc92_52).1) ?_
          refine o_iload X50 hx (hb hby d4_95) rfl ?_
          exact k_
        obtain ⟨fs, hr, hrun, hended, hW, hsame⟩ := X50.leave (v := some (.int (0 : Int32))) (fun h => by rw [Bd.returns] at h; cases h)
        refine ⟨_, _, pre0 _ (go121 _ ?_), hrun, hended, _, _, rfl, ?_, ⟨_, rfl⟩, hW, hsame.mono (by decide) (by decide)⟩
        · skip
          exact retI X50 hx Bd.returns (hb hby d4_97) hr
        · show Q4_b2 Z a1 a2 bw bh bs kw kh ks k2 hs sl x0 x1 y0 y1 h0 n0 _ T50.heap _
          rw [eh50]
          exact ⟨(0 : Int32), (0 : Int64), (0 : Int64), rfl, N50, K0, Fwi, Fwo, Vw, (Or.inl ⟨rfl, own_eqT_2 hc92_52⟩)⟩
    · skip
      have go123 : Go p e below s₁ F0 T43 (mkF m 52 #[vr a1, vr a2, vi (0 : Int32), vi hs2, vi (31 : Int32), vi ((t + (1 : Int32)) &&& (31 : Int32)), vi (0 : Int32)] []) := by
        intro t_ k_
        refine go47 t_ ?_
        refine o_icmpYes X43 hx (hb hby d4_81) (pc' := 98) rfl (by decide) (feq hc81_48).2 ?_
        refine o_iload X43 hx (hb hby d4_98) rfl ?_
        refine o_iconst X43 hx (hb hby d4_100) (v := 1) rfl ?_
        refine o_iadd X43 hx (hb hby d4_101) ?_
        refine o_iload X43 hx (hb hby d4_102) rfl ?_
        refine o_iand X43 hx (hb hby d4_104) ?_
        refine o_istore X43 hx (hb hby d4_105) (L' := #[vr a1, vr a2, vi (0 : Int32), vi hs2, vi (31 : Int32), vi ((t + (1 : Int32)) &&& (31 : Int32)), vi (0 : Int32)]) rfl ?_
        refine o_goto X43 hx (hb hby d4_107) (pc' := 52) rfl (by decide) ?_
        exact k_
      obtain ⟨t122, h_t122⟩ : ∃ z : Int32, z = ((t + (1 : Int32)) &&& (31 : Int32)) := ⟨_, rfl⟩
      have go124 : Go p e below s₁ F0 T43 (mkF m 52 #[vr a1, vr a2, vi (0 : Int32), vi hs2, vi (31 : Int32), vi t122, vi (0 : Int32)] []) := by rw [h_t122]; exact go123
      have go125 : Go p e below s₁ F0 T43 (mkF m 53 #[vr a1, vr a2, vi (0 : Int32), vi hs2, vi (31 : Int32), vi t122, vi (0 : Int32)] [(.ref a1)]) := by
        intro t_ k_
        refine go124 t_ ?_
        refine o_aloadN X43 hx (hb hby d4_52) rfl rfl ?_
        exact k_
      obtain ⟨T126, X126, e126, st126⟩ := getF X43 hx hZ hown (host := "") (Or.inl (own_w hw 17 rfl)) Via.refl e43 Fsl (g := (mkF m 53 #[vr a1, vr a2, vi (0 : Int32), vi hs2, vi (31 : Int32), vi t122, vi (0 : Int32)] [(.ref a1)])) rfl rfl (hb hby d4_53)
      have go127 : Go p e below s₁ F0 T126 (mkF m 56 #[vr a1, vr a2, vi (0 : Int32), vi hs2, vi (31 : Int32), vi t122, vi (0 : Int32)] [(.ref bs)]) := fun t_ k_ => go125 t_ (st126 t_ k_)
      have go128 : Go p e below s₁ F0 T126 (mkF m 58 #[vr a1, vr a2, vi (0 : Int32), vi hs2, vi (31 : Int32), vi t122, vi (0 : Int32)] [(.int t122), (.ref bs)]) := by
        intro t_ k_
        refine go127 t_ ?_
        refine o_iload X126 hx (hb hby d4_56) rfl ?_
        exact k_
      obtain ⟨cl129, Ar129, -, Sz129, Nn129, Hs129, -⟩ := id Vs
      have hin129 : ¬ (t122 < 0 ∨ cl129.slots.size ≤ (t122).toNatClampNeg) := inb_of Sz129 (own_in2 h_t122)
      have hat129 : cl129.slots[(t122).toNatClampNeg]? = some (.int (0 : Int32)) := Hs129.at hin129 (own_miss (own_in2 h_t122) (own_in hsl) (own_next (own_in hsl) hb52_31 h_t122))
      have go130 : Go p e below s₁ F0 T126 (mkF m 112 #[vr a1, vr a2, vi (0 : Int32), vi hs2, vi (31 : Int32), vi t122, vi (0 : Int32)] [(.ref a1), (.ref a1)]) := by
        intro t_ k_
        refine go128 t_ ?_
        refine o_iaload X126 hx hZ e126 Ar129 hin129 hat129 (hb hby d4_58) ?_
        refine o_ifYes X126 hx (hb hby d4_59) (pc' := 110) rfl (by decide) ((if0 _ _).trans (teq (by decide : (0 : Int32) = (0 : Int32))).1) ?_
        refine o_aloadN X126 hx (hb hby d4_110) rfl rfl ?_
        refine o_dup X126 hx (hb hby d4_111) rfl ?_
        exact k_
      obtain ⟨T131, X131, e131, st131⟩ := getF X126 hx hZ hown (host := "") (Or.inl (own_w hw 36 rfl)) Via.refl e126 Fco (g := (mkF m 112 #[vr a1, vr a2, vi (0 : Int32), vi hs2, vi (31 : Int32), vi t122, vi (0 : Int32)] [(.ref a1), (.ref a1)])) rfl rfl (hb hby d4_112)
      have go132 : Go p e below s₁ F0 T131 (mkF m 115 #[vr a1, vr a2, vi (0 : Int32), vi hs2, vi (31 : Int32), vi t122, vi (0 : Int32)] [(.int (1 : Int32)), (.ref a1)]) := fun t_ k_ => go130 t_ (st131 t_ k_)
      have go133 : Go p e below s₁ F0 T131 (mkF m 118 #[vr a1, vr a2, vi (0 : Int32), vi hs2, vi (31 : Int32), vi t122, vi (0 : Int32)] [(.int (2 : Int32)), (.ref a1), (.int (1 : Int32))]) := by
        intro t_ k_
        refine go132 t_ ?_
        refine o_dupX1 X131 hx (hb hby d4_115) rfl rfl ?_
        refine o_iconst X131 hx (hb hby d4_116) (v := 1) rfl ?_
        refine o_iaddE X131 hx (hb hby d4_117) (v := 2) rfl ?_
        exact k_
      obtain ⟨T134, h134, X134, e134, W134, st134⟩ := putF X131 hx hZ hown (host := "") (Or.inl (own_w hw 36 rfl)) Via.refl e131 Fco E0 (Or.inl (own_w hw 37 rfl)) (own_w hw 2 rfl) (ty := .int) (by decide) rfl rfl (g := (mkF m 118 #[vr a1, vr a2, vi (0 : Int32), vi hs2, vi (31 : Int32), vi t122, vi (0 : Int32)] [(.int (2 : Int32)), (.ref a1), (.int (1 : Int32))])) rfl rfl (hb hby d4_118)
      have Fw134 : Fld Z h134 a1 c_0 "count" "I" (.int (2 : Int32)) := Fld.same W134 Fco
      have K135 : Keep h0 h134 [a1, bw, bh, bs] := K0.wr W134 (Or.inl (List.mem_of_getElem? (i := 0) rfl))
      have Z135 : n0 ≤ h134.size := Nat.le_trans Z0 (Keep.of_wr W134).1
      have N134 := Fr.snoc X134 N27 g1
      have go136 : Go p e below s₁ F0 T134 (mkF m 121 #[vr a1, vr a2, vi (0 : Int32), vi hs2, vi (31 : Int32), vi t122, vi (0 : Int32)] [(.int (1 : Int32))]) := fun t_ k_ => go133 t_ (st134 t_ k_)
      have F137 : Fld Z h134 a1 c_0 "hashes" "[I" (.ref bh) := (Fha.other W134 (Or.inr (slot_ne (Or.inl (own_w hw 16 rfl)) (Or.inl (own_w hw 37 rfl)) (by decide) (t := (.array .int)) (t' := .int) (by decide) (by decide))))
      have go138 : Go p e below s₁ F0 T134 (mkF m 126 #[vr a1, vr a2, vi (0 : Int32), vi hs2, vi (31 : Int32), vi t122, vi (1 : Int32)] [(.ref a1), (.int (1 : Int32))]) := by
        intro t_ k_
        refine go136 t_ ?_
        refine o_istore X134 hx (hb hby d4_121) (L' := #[vr a1, vr a2, vi (0 : Int32), vi hs2, vi (31 : Int32), vi t122, vi (1 : Int32)]) rfl ?_
        refine o_iload X134 hx (hb hby d4_123) rfl ?_
        refine o_aloadN X134 hx (hb hby d4_125) rfl rfl ?_
        exact k_
      obtain ⟨T139, X139, e139, st139⟩ := getF X134 hx hZ hown (host := "") (Or.inl (own_w hw 15 rfl)) Via.refl e134 F137 (g := (mkF m 126 #[vr a1, vr a2, vi (0 : Int32), vi hs2, vi (31 : Int32), vi t122, vi (1 : Int32)] [(.ref a1), (.int (1 : Int32))])) rfl rfl (hb hby d4_126)
      have go140 : Go p e below s₁ F0 T139 (mkF m 129 #[vr a1, vr a2, vi (0 : Int32), vi hs2, vi (31 : Int32), vi t122, vi (1 : Int32)] [(.ref bh), (.int (1 : Int32))]) := fun t_ k_ => go138 t_ (st139 t_ k_)
      have F141 : Arv Z h134 bh kh .int (16 : Int32) ((.int hs) :: own_zi 15) (.int (0 : Int32)) := (Vh.other W134 (Ne.symm nah))
      obtain ⟨cl142, Ar142, -, Sz142, Nn142, -, -⟩ := id F141
      have F143 : Fld Z h134 a1 c_0 "words" "[J" (.ref bw) := (Fwo.other W134 (Or.inr (slot_ne (Or.inl (own_w hw 13 rfl)) (Or.inl (own_w hw 37 rfl)) (by decide) (t := (.array .long)) (t' := .int) (by decide) (by decide))))
      have go144 : Go p e below s₁ F0 T139 (mkF m 171 #[vr a1, vr a2, vi (0 : Int32), vi hs2, vi (31 : Int32), vi t122, vi (1 : Int32)] [(.ref a1), (.int (0 : Int32)), (.ref a2)]) := by
        intro t_ k_
        refine go140 t_ ?_
        refine o_len X139 hx hZ e139 Ar142 Sz142 Nn142 (hb hby d4_129) ?_
        refine o_icmpYes X139 hx (hb hby d4_130) (pc' := 168) rfl (by decide) (feq (by decide : ¬ ((1 : Int32) = (16 : Int32)))).2 ?_
        refine o_aloadN X139 hx (hb hby d4_168) rfl rfl ?_
        refine o_iloadN X139 hx (hb hby d4_169) rfl ?_
        refine o_aloadN X139 hx (hb hby d4_170) rfl rfl ?_
        exact k_
      obtain ⟨T145, X145, e145, st145⟩ := getF X139 hx hZ hown (host := "") (Or.inl (own_w hw 12 rfl)) Via.refl e139 F143 (g := (mkF m 171 #[vr a1, vr a2, vi (0 : Int32), vi hs2, vi (31 : Int32), vi t122, vi (1 : Int32)] [(.ref a1), (.int (0 : Int32)), (.ref a2)])) rfl rfl (hb hby d4_171)
      have go146 : Go p e below s₁ F0 T145 (mkF m 174 #[vr a1, vr a2, vi (0 : Int32), vi hs2, vi (31 : Int32), vi t122, vi (1 : Int32)] [(.ref bw), (.int (0 : Int32)), (.ref a2)]) := fun t_ k_ => go144 t_ (st145 t_ k_)
      have F147 : Fld Z h134 a1 c_0 "width" "I" (.int (2 : Int32)) := (Fwi.other W134 (Or.inr (slot_ne (Or.inr (own_w hw 11 rfl)) (Or.inl (own_w hw 37 rfl)) (by decide) (t := .int) (t' := .int) (by decide) (by decide))))
      have go148 : Go p e below s₁ F0 T145 (mkF m 177 #[vr a1, vr a2, vi (0 : Int32), vi hs2, vi (31 : Int32), vi t122, vi (1 : Int32)] [(.ref a1), (.int (1 : Int32)), (.ref bw), (.int (0 : Int32)), (.ref a2)]) := by
        intro t_ k_
        refine go146 t_ ?_
        refine o_iload X145 hx (hb hby d4_174) rfl ?_
        refine o_aloadN X145 hx (hb hby d4_176) rfl rfl ?_
        exact k_
      obtain ⟨T149, X149, e149, st149⟩ := getF X145 hx hZ hown (host := "") (Or.inl (own_w hw 10 rfl)) Via.refl e145 F147 (g := (mkF m 177 #[vr a1, vr a2, vi (0 : Int32), vi hs2, vi (31 : Int32), vi t122, vi (1 : Int32)] [(.ref a1), (.int (1 : Int32)), (.ref bw), (.int (0 : Int32)), (.ref a2)])) rfl rfl (hb hby d4_177)
      have go150 : Go p e below s₁ F0 T149 (mkF m 180 #[vr a1, vr a2, vi (0 : Int32), vi hs2, vi (31 : Int32), vi t122, vi (1 : Int32)] [(.int (2 : Int32)), (.int (1 : Int32)), (.ref bw), (.int (0 : Int32)), (.ref a2)]) := fun t_ k_ => go148 t_ (st149 t_ k_)
      have go151 : Go p e below s₁ F0 T149 (mkF m 182 #[vr a1, vr a2, vi (0 : Int32), vi hs2, vi (31 : Int32), vi t122, vi (1 : Int32)] [(.ref a1), (.int (2 : Int32)), (.ref bw), (.int (0 : Int32)), (.ref a2)]) := by
        intro t_ k_
        refine go150 t_ ?_
        refine o_imulE X149 hx (hb hby d4_180) (v := 2) rfl ?_
        refine o_aloadN X149 hx (hb hby d4_181) rfl rfl ?_
        exact k_
      obtain ⟨T152, X152, e152, st152⟩ := getF X149 hx hZ hown (host := "") (Or.inl (own_w hw 10 rfl)) Via.refl e149 F147 (g := (mkF m 182 #[vr a1, vr a2, vi (0 : Int32), vi hs2, vi (31 : Int32), vi t122, vi (1 : Int32)] [(.ref a1), (.int (2 : Int32)), (.ref bw), (.int (0 : Int32)), (.ref a2)])) rfl rfl (hb hby d4_182)
      have go153 : Go p e below s₁ F0 T152 (mkF m 185 #[vr a1, vr a2, vi (0 : Int32), vi hs2, vi (31 : Int32), vi t122, vi (1 : Int32)] [(.int (2 : Int32)), (.int (2 : Int32)), (.ref bw), (.int (0 : Int32)), (.ref a2)]) := fun t_ k_ => go151 t_ (st152 t_ k_)
      have F154 : Arv Z h134 a2 k2 .long (2 : Int32) [(.long y0), (.long y1)] (.long (0 : Int64)) := (V2.other W134 (Ne.symm n12))
      have F155 : Arv Z h134 bw kw .long (32 : Int32) ((.long x0) :: (.long x1) :: own_zl 30) (.long (0 : Int64)) := (Vw.other W134 (Ne.symm naw))
      obtain ⟨T156, h156, L156, X156, e156, N156, Kc156, Vc156, st156⟩ := cpA X152 hx hZ hown (own_w hw 38 rfl) (own_w hw 41 rfl) (own_w hw 39 rfl) (own_w hw 40 rfl) e152 F154 F155 (Or.inl ⟨rfl, rfl⟩) (by decide) (by decide) (by decide) (by decide) (by decide) (us := [(.long y0), (.long y1)]) rfl (Nat.le_of_ble_eq_true rfl) N134 gw (g := (mkF m 185 #[vr a1, vr a2, vi (0 : Int32), vi hs2, vi (31 : Int32), vi t122, vi (1 : Int32)] [(.int (2 : Int32)), (.int (2 : Int32)), (.ref bw), (.int (0 : Int32)), (.ref a2)])) rfl (by rw [hml]; rfl) rfl (hb hby d4_185) (by decide) (W := 0) (by show 2 * 0 + _ ≤ _; exact Nat.le_of_eq rfl) (by decide)
      have V156 : Arv Z h156 bw kw .long (32 : Int32) ((.long x0) :: (.long x1) :: (.long y0) :: (.long y1) :: own_zl 28) (.long (0 : Int64)) := Vc156
      have K157 : Keep h0 h156 [a1, bw, bh, bs] := K135.trans Kc156 (allS (Or.inl (List.mem_of_getElem? (i := 1) rfl)) all0)
      have Z157 : n0 ≤ h156.size := Nat.le_trans Z135 Kc156.1
      have go158 : Go p e below s₁ F0 T156 (mkF m 188 #[vr a1, vr a2, vi (0 : Int32), vi hs2, vi (31 : Int32), vi t122, vi (1 : Int32)] []) := fun t_ k_ => go153 t_ (st156 t_ k_)
      have F159 : Fld Z h156 a1 c_0 "hashes" "[I" (.ref bh) := (F137.keep Kc156 (ninS naw nin0))
      have go160 : Go p e below s₁ F0 T156 (mkF m 189 #[vr a1, vr a2, vi (0 : Int32), vi hs2, vi (31 : Int32), vi t122, vi (1 : Int32)] [(.ref a1)]) := by
        intro t_ k_
        refine go158 t_ ?_
        refine o_aloadN X156 hx (hb hby d4_188) rfl rfl ?_
        exact k_
      obtain ⟨T161, X161, e161, st161⟩ := getF X156 hx hZ hown (host := "") (Or.inl (own_w hw 15 rfl)) Via.refl e156 F159 (g := (mkF m 189 #[vr a1, vr a2, vi (0 : Int32), vi hs2, vi (31 : Int32), vi t122, vi (1 : Int32)] [(.ref a1)])) rfl rfl (hb hby d4_189)
      have go162 : Go p e below s₁ F0 T161 (mkF m 192 #[vr a1, vr a2, vi (0 : Int32), vi hs2, vi (31 : Int32), vi t122, vi (1 : Int32)] [(.ref bh)]) := fun t_ k_ => go160 t_ (st161 t_ k_)
      have F163 : Arv Z h156 bh kh .int (16 : Int32) ((.int hs) :: own_zi 15) (.int (0 : Int32)) := (F141.keep Kc156 (ninS (Ne.symm nwh) nin0))
      have go164 : Go p e below s₁ F0 T161 (mkF m 195 #[vr a1, vr a2, vi (0 : Int32), vi hs2, vi (31 : Int32), vi t122, vi (1 : Int32)] [(.int hs2), (.int (1 : Int32)), (.ref bh)]) := by
        intro t_ k_
        refine go162 t_ ?_
        refine o_iload X161 hx (hb hby d4_192) rfl ?_
        refine o_iloadN X161 hx (hb hby d4_194) rfl ?_
        exact k_
      obtain ⟨cl165, Ar165, q165, Sz165, Nn165, Hs165, G165⟩ := id F163
      have hin165 : ¬ ((1 : Int32) < 0 ∨ cl165.slots.size ≤ ((1 : Int32)).toNatClampNeg) := inb_of Sz165 ⟨by decide, by decide⟩
      obtain ⟨T165, h165, X165, e165, W165, st165⟩ := stI X161 hx hZ e161 Ar165 (j := (1 : Int32)) hin165 (g := (mkF m 195 #[vr a1, vr a2, vi (0 : Int32), vi hs2, vi (31 : Int32), vi t122, vi (1 : Int32)] [(.int hs2), (.int (1 : Int32)), (.ref bh)])) rfl rfl (hb hby d4_195)
      have V165 : Arv Z h165 bh kh .int (16 : Int32) ((.int hs) :: (.int hs2) :: own_zi 14) (.int (0 : Int32)) := Arv.set Ar165 q165 Sz165 Nn165 Hs165 G165 rfl W165 1 rfl (Nat.le_of_ble_eq_true rfl)
      have K166 : Keep h0 h165 [a1, bw, bh, bs] := K157.wr W165 (Or.inl (List.mem_of_getElem? (i := 2) rfl))
      have Z166 : n0 ≤ h165.size := Nat.le_trans Z157 (Keep.of_wr W165).1
      have N165 := Fr.snoc X165 N156 gh
      have go167 : Go p e below s₁ F0 T165 (mkF m 196 #[vr a1, vr a2, vi (0 : Int32), vi hs2, vi (31 : Int32), vi t122, vi (1 : Int32)] []) := fun t_ k_ => go164 t_ (st165 t_ k_)
      have F168 : Fld Z h165 a1 c_0 "slots" "[I" (.ref bs) := (((Fsl.other W134 (Or.inr (slot_ne (Or.inl (own_w hw 18 rfl)) (Or.inl (own_w hw 37 rfl)) (by decide) (t := (.array .int)) (t' := .int) (by decide) (by decide)))).keep Kc156 (ninS naw nin0)).other W165 (Or.inl nah))
      have go169 : Go p e below s₁ F0 T165 (mkF m 197 #[vr a1, vr a2, vi (0 : Int32), vi hs2, vi (31 : Int32), vi t122, vi (1 : Int32)] [(.ref a1)]) := by
        intro t_ k_
        refine go167 t_ ?_
        refine o_aloadN X165 hx (hb hby d4_196) rfl rfl ?_
        exact k_
      obtain ⟨T170, X170, e170, st170⟩ := getF X165 hx hZ hown (host := "") (Or.inl (own_w hw 17 rfl)) Via.refl e165 F168 (g := (mkF m 197 #[vr a1, vr a2, vi (0 : Int32), vi hs2, vi (31 : Int32), vi t122, vi (1 : Int32)] [(.ref a1)])) rfl rfl (hb hby d4_197)
      have go171 : Go p e below s₁ F0 T170 (mkF m 200 #[vr a1, vr a2, vi (0 : Int32), vi hs2, vi (31 : Int32), vi t122, vi (1 : Int32)] [(.ref bs)]) := fun t_ k_ => go169 t_ (st170 t_ k_)
      have F172 : Arv Z h165 bs ks .int (32 : Int32) (own_sl sl) (.int (0 : Int32)) := (((Vs.other W134 (Ne.symm nas)).keep Kc156 (ninS (Ne.symm nws) nin0)).other W165 (Ne.symm nhs))
      have go173 : Go p e below s₁ F0 T170 (mkF m 206 #[vr a1, vr a2, vi (0 : Int32), vi hs2, vi (31 : Int32), vi t122, vi (1 : Int32)] [(.int (2 : Int32)), (.int t122), (.ref bs)]) := by
        intro t_ k_
        refine go171 t_ ?_
        refine o_iload X170 hx (hb hby d4_200) rfl ?_
        refine o_iload X170 hx (hb hby d4_202) rfl ?_
        refine o_iconst X170 hx (hb hby d4_204) (v := 1) rfl ?_
        refine o_iaddE X170 hx (hb hby d4_205) (v := 2) rfl ?_
        exact k_
      obtain ⟨cl174, Ar174, q174, Sz174, Nn174, Hs174, G174⟩ := id F172
      have hin174 : ¬ (t122 < 0 ∨ cl174.slots.size ≤ (t122).toNatClampNeg) := inb_of Sz174 (own_in2 h_t122)
      obtain ⟨T174, h174, X174, e174, W174, st174⟩ := stI X170 hx hZ e170 Ar174 (j := t122) hin174 (g := (mkF m 206 #[vr a1, vr a2, vi (0 : Int32), vi hs2, vi (31 : Int32), vi t122, vi (1 : Int32)] [(.int (2 : Int32)), (.int t122), (.ref bs)])) rfl rfl (hb hby d4_206)
      have V174 : Arv Z h174 bs ks .int (32 : Int32) ((own_sl sl).set t122.toNatClampNeg (.int (2 : Int32))) (.int (0 : Int32)) := Arv.set Ar174 q174 Sz174 Nn174 Hs174 G174 rfl W174 t122.toNatClampNeg rfl (own_ls (own_in2 h_t122))
      have K175 : Keep h0 h174 [a1, bw, bh, bs] := K166.wr W174 (Or.inl (List.mem_of_getElem? (i := 3) rfl))
      have Z175 : n0 ≤ h174.size := Nat.le_trans Z166 (Keep.of_wr W174).1
      have N174 := Fr.snoc X174 N165 gs
      have go176 : Go p e below s₁ F0 T174 (mkF m 207 #[vr a1, vr a2, vi (0 : Int32), vi hs2, vi (31 : Int32), vi t122, vi (1 : Int32)] []) := fun t_ k_ => go173 t_ (st174 t_ k_)
      have F177 : Fld Z h174 a1 c_0 "count" "I" (.int (2 : Int32)) := (((Fw134.keep Kc156 (ninS naw nin0)).other W165 (Or.inl nah)).other W174 (Or.inl nas))
      have go178 : Go p e below s₁ F0 T174 (mkF m 209 #[vr a1, vr a2, vi (0 : Int32), vi hs2, vi (31 : Int32), vi t122, vi (1 : Int32)] [(.ref a1), (.int (2 : Int32))]) := by
        intro t_ k_
        refine go176 t_ ?_
        refine o_iconst X174 hx (hb hby d4_207) (v := 2) rfl ?_
        refine o_aloadN X174 hx (hb hby d4_208) rfl rfl ?_
        exact k_
      obtain ⟨T179, X179, e179, st179⟩ := getF X174 hx hZ hown (host := "") (Or.inl (own_w hw 36 rfl)) Via.refl e174 F177 (g := (mkF m 209 #[vr a1, vr a2, vi (0 : Int32), vi hs2, vi (31 : Int32), vi t122, vi (1 : Int32)] [(.ref a1), (.int (2 : Int32))])) rfl rfl (hb hby d4_209)
      have go180 : Go p e below s₁ F0 T179 (mkF m 212 #[vr a1, vr a2, vi (0 : Int32), vi hs2, vi (31 : Int32), vi t122, vi (1 : Int32)] [(.int (2 : Int32)), (.int (2 : Int32))]) := fun t_ k_ => go178 t_ (st179 t_ k_)
      have F181 : Fld Z h174 a1 c_0 "slots" "[I" (.ref bs) := (F168.other W174 (Or.inl nas))
      have go182 : Go p e below s₁ F0 T179 (mkF m 214 #[vr a1, vr a2, vi (0 : Int32), vi hs2, vi (31 : Int32), vi t122, vi (1 : Int32)] [(.ref a1), (.int (4 : Int32))]) := by
        intro t_ k_
        refine go180 t_ ?_
        refine o_imulE X179 hx (hb hby d4_212) (v := 4) rfl ?_
        refine o_aloadN X179 hx (hb hby d4_213) rfl rfl ?_
        exact k_
      obtain ⟨T183, X183, e183, st183⟩ := getF X179 hx hZ hown (host := "") (Or.inl (own_w hw 17 rfl)) Via.refl e179 F181 (g := (mkF m 214 #[vr a1, vr a2, vi (0 : Int32), vi hs2, vi (31 : Int32), vi t122, vi (1 : Int32)] [(.ref a1), (.int (4 : Int32))])) rfl rfl (hb hby d4_214)
      have go184 : Go p e below s₁ F0 T183 (mkF m 217 #[vr a1, vr a2, vi (0 : Int32), vi hs2, vi (31 : Int32), vi t122, vi (1 : Int32)] [(.ref bs), (.int (4 : Int32))]) := fun t_ k_ => go182 t_ (st183 t_ k_)
      obtain ⟨cl185, Ar185, -, Sz185, Nn185, -, -⟩ := id V174
      have go186 : Go p e below s₁ F0 T183 (mkF m 227 #[vr a1, vr a2, vi (0 : Int32), vi hs2, vi (31 : Int32), vi t122, vi (1 : Int32)] [(.int (1 : Int32))]) := by
        intro t_ k_
        refine go184 t_ ?_
        refine o_len X183 hx hZ e183 Ar185 Sz185 Nn185 (hb hby d4_217) ?_
        refine o_icmpYes X183 hx (hb hby d4_218) (pc' := 225) rfl (by decide) (flt (by decide : ¬ ((32 : Int32) < (4 : Int32)))).2.2.2 ?_
        refine o_iload X183 hx (hb hby d4_225) rfl ?_
        exact k_
      obtain ⟨fs, hr, hrun, hended, hW, hsame⟩ := X183.leave (v := some (.int (1 : Int32))) (fun h => by rw [Bd.returns] at h; cases h)
      refine ⟨_, _, pre0 _ (go186 _ ?_), hrun, hended, _, _, rfl, ?_, ⟨_, rfl⟩, hW, hsame.mono (by decide) (by decide)⟩
      · skip
        exact retI X183 hx Bd.returns (hb hby d4_227) hr
      · show Q4_b2 Z a1 a2 bw bh bs kw kh ks k2 hs sl x0 x1 y0 y1 h0 n0 _ T183.heap _
        rw [e183]
        have F187 : Fld Z h174 a1 c_0 "width" "I" (.int (2 : Int32)) := (((F147.keep Kc156 (ninS naw nin0)).other W165 (Or.inl nah)).other W174 (Or.inl nas))
        have F188 : Fld Z h174 a1 c_0 "words" "[J" (.ref bw) := (((F143.keep Kc156 (ninS naw nin0)).other W165 (Or.inl nah)).other W174 (Or.inl nas))
        have F189 : Arv Z h174 bw kw .long (32 : Int32) ((.long x0) :: (.long x1) :: (.long y0) :: (.long y1) :: own_zl 28) (.long (0 : Int64)) := ((V156.other W165 nwh).other W174 nws)
        exact ⟨(1 : Int32), y0, y1, rfl, N174, K175, F187, F188, F189, (Or.inr ⟨rfl, (own_neH_2 hhs h_hs2 hc81_48), rfl, rfl⟩)⟩
  · skip
    have go190 : Go p e below s₁ F0 T27 (mkF m 53 #[vr a1, vr a2, vi (0 : Int32), vi hs2, vi (31 : Int32), vi t, .unset] [(.ref a1)]) := by
      intro t_ k_
      refine go30 t_ ?_
      refine o_aloadN X27 hx (hb hby d4_52) rfl rfl ?_
      exact k_
    obtain ⟨T191, X191, e191, st191⟩ := getF X27 hx hZ hown (host := "") (Or.inl (own_w hw 17 rfl)) Via.refl eh27 Fsl (g := (mkF m 53 #[vr a1, vr a2, vi (0 : Int32), vi hs2, vi (31 : Int32), vi t, .unset] [(.ref a1)])) rfl rfl (hb hby d4_53)
    have go192 : Go p e below s₁ F0 T191 (mkF m 56 #[vr a1, vr a2, vi (0 : Int32), vi hs2, vi (31 : Int32), vi t, .unset] [(.ref bs)]) := fun t_ k_ => go190 t_ (st191 t_ k_)
    have go193 : Go p e below s₁ F0 T191 (mkF m 58 #[vr a1, vr a2, vi (0 : Int32), vi hs2, vi (31 : Int32), vi t, .unset] [(.int t), (.ref bs)]) := by
      intro t_ k_
      refine go192 t_ ?_
      refine o_iload X191 hx (hb hby d4_56) rfl ?_
      exact k_
    obtain ⟨cl194, Ar194, -, Sz194, Nn194, Hs194, -⟩ := id Vs
    have hin194 : ¬ (t < 0 ∨ cl194.slots.size ≤ (t).toNatClampNeg) := inb_of Sz194 (own_in h_t)
    have hat194 : cl194.slots[(t).toNatClampNeg]? = some (.int (0 : Int32)) := Hs194.at hin194 (own_miss (own_in h_t) (own_in hsl) hb52_31)
    have go195 : Go p e below s₁ F0 T191 (mkF m 112 #[vr a1, vr a2, vi (0 : Int32), vi hs2, vi (31 : Int32), vi t, .unset] [(.ref a1), (.ref a1)]) := by
      intro t_ k_
      refine go193 t_ ?_
      refine o_iaload X191 hx hZ e191 Ar194 hin194 hat194 (hb hby d4_58) ?_
      refine o_ifYes X191 hx (hb hby d4_59) (pc' := 110) rfl (by decide) ((if0 _ _).trans (teq (by decide : (0 : Int32) = (0 : Int32))).1) ?_
      refine o_aloadN X191 hx (hb hby d4_110) rfl rfl ?_
      refine o_dup X191 hx (hb hby d4_111) rfl ?_
      exact k_
    obtain ⟨T196, X196, e196, st196⟩ := getF X191 hx hZ hown (host := "") (Or.inl (own_w hw 36 rfl)) Via.refl e191 Fco (g := (mkF m 112 #[vr a1, vr a2, vi (0 : Int32), vi hs2, vi (31 : Int32), vi t, .unset] [(.ref a1), (.ref a1)])) rfl rfl (hb hby d4_112)
    have go197 : Go p e below s₁ F0 T196 (mkF m 115 #[vr a1, vr a2, vi (0 : Int32), vi hs2, vi (31 : Int32), vi t, .unset] [(.int (1 : Int32)), (.ref a1)]) := fun t_ k_ => go195 t_ (st196 t_ k_)
    have go198 : Go p e below s₁ F0 T196 (mkF m 118 #[vr a1, vr a2, vi (0 : Int32), vi hs2, vi (31 : Int32), vi t, .unset] [(.int (2 : Int32)), (.ref a1), (.int (1 : Int32))]) := by
      intro t_ k_
      refine go197 t_ ?_
      refine o_dupX1 X196 hx (hb hby d4_115) rfl rfl ?_
      refine o_iconst X196 hx (hb hby d4_116) (v := 1) rfl ?_
      refine o_iaddE X196 hx (hb hby d4_117) (v := 2) rfl ?_
      exact k_
    obtain ⟨T199, h199, X199, e199, W199, st199⟩ := putF X196 hx hZ hown (host := "") (Or.inl (own_w hw 36 rfl)) Via.refl e196 Fco E0 (Or.inl (own_w hw 37 rfl)) (own_w hw 2 rfl) (ty := .int) (by decide) rfl rfl (g := (mkF m 118 #[vr a1, vr a2, vi (0 : Int32), vi hs2, vi (31 : Int32), vi t, .unset] [(.int (2 : Int32)), (.ref a1), (.int (1 : Int32))])) rfl rfl (hb hby d4_118)
    have Fw199 : Fld Z h199 a1 c_0 "count" "I" (.int (2 : Int32)) := Fld.same W199 Fco
    have K200 : Keep h0 h199 [a1, bw, bh, bs] := K0.wr W199 (Or.inl (List.mem_of_getElem? (i := 0) rfl))
    have Z200 : n0 ≤ h199.size := Nat.le_trans Z0 (Keep.of_wr W199).1
    have N199 := Fr.snoc X199 N27 g1
    have go201 : Go p e below s₁ F0 T199 (mkF m 121 #[vr a1, vr a2, vi (0 : Int32), vi hs2, vi (31 : Int32), vi t, .unset] [(.int (1 : Int32))]) := fun t_ k_ => go198 t_ (st199 t_ k_)
    have F202 : Fld Z h199 a1 c_0 "hashes" "[I" (.ref bh) := (Fha.other W199 (Or.inr (slot_ne (Or.inl (own_w hw 16 rfl)) (Or.inl (own_w hw 37 rfl)) (by decide) (t := (.array .int)) (t' := .int) (by decide) (by decide))))
    have go203 : Go p e below s₁ F0 T199 (mkF m 126 #[vr a1, vr a2, vi (0 : Int32), vi hs2, vi (31 : Int32), vi t, vi (1 : Int32)] [(.ref a1), (.int (1 : Int32))]) := by
      intro t_ k_
      refine go201 t_ ?_
      refine o_istore X199 hx (hb hby d4_121) (L' := #[vr a1, vr a2, vi (0 : Int32), vi hs2, vi (31 : Int32), vi t, vi (1 : Int32)]) rfl ?_
      refine o_iload X199 hx (hb hby d4_123) rfl ?_
      refine o_aloadN X199 hx (hb hby d4_125) rfl rfl ?_
      exact k_
    obtain ⟨T204, X204, e204, st204⟩ := getF X199 hx hZ hown (host := "") (Or.inl (own_w hw 15 rfl)) Via.refl e199 F202 (g := (mkF m 126 #[vr a1, vr a2, vi (0 : Int32), vi hs2, vi (31 : Int32), vi t, vi (1 : Int32)] [(.ref a1), (.int (1 : Int32))])) rfl rfl (hb hby d4_126)
    have go205 : Go p e below s₁ F0 T204 (mkF m 129 #[vr a1, vr a2, vi (0 : Int32), vi hs2, vi (31 : Int32), vi t, vi (1 : Int32)] [(.ref bh), (.int (1 : Int32))]) := fun t_ k_ => go203 t_ (st204 t_ k_)
    have F206 : Arv Z h199 bh kh .int (16 : Int32) ((.int hs) :: own_zi 15) (.int (0 : Int32)) := (Vh.other W199 (Ne.symm nah))
    obtain ⟨cl207, Ar207, -, Sz207, Nn207, -, -⟩ := id F206
    have F208 : Fld Z h199 a1 c_0 "words" "[J" (.ref bw) := (Fwo.other W199 (Or.inr (slot_ne (Or.inl (own_w hw 13 rfl)) (Or.inl (own_w hw 37 rfl)) (by decide) (t := (.array .long)) (t' := .int) (by decide) (by decide))))
    have go209 : Go p e below s₁ F0 T204 (mkF m 171 #[vr a1, vr a2, vi (0 : Int32), vi hs2, vi (31 : Int32), vi t, vi (1 : Int32)] [(.ref a1), (.int (0 : Int32)), (.ref a2)]) := by
      intro t_ k_
      refine go205 t_ ?_
      refine o_len X204 hx hZ e204 Ar207 Sz207 Nn207 (hb hby d4_129) ?_
      refine o_icmpYes X204 hx (hb hby d4_130) (pc' := 168) rfl (by decide) (feq (by decide : ¬ ((1 : Int32) = (16 : Int32)))).2 ?_
      refine o_aloadN X204 hx (hb hby d4_168) rfl rfl ?_
      refine o_iloadN X204 hx (hb hby d4_169) rfl ?_
      refine o_aloadN X204 hx (hb hby d4_170) rfl rfl ?_
      exact k_
    obtain ⟨T210, X210, e210, st210⟩ := getF X204 hx hZ hown (host := "") (Or.inl (own_w hw 12 rfl)) Via.refl e204 F208 (g := (mkF m 171 #[vr a1, vr a2, vi (0 : Int32), vi hs2, vi (31 : Int32), vi t, vi (1 : Int32)] [(.ref a1), (.int (0 : Int32)), (.ref a2)])) rfl rfl (hb hby d4_171)
    have go211 : Go p e below s₁ F0 T210 (mkF m 174 #[vr a1, vr a2, vi (0 : Int32), vi hs2, vi (31 : Int32), vi t, vi (1 : Int32)] [(.ref bw), (.int (0 : Int32)), (.ref a2)]) := fun t_ k_ => go209 t_ (st210 t_ k_)
    have F212 : Fld Z h199 a1 c_0 "width" "I" (.int (2 : Int32)) := (Fwi.other W199 (Or.inr (slot_ne (Or.inr (own_w hw 11 rfl)) (Or.inl (own_w hw 37 rfl)) (by decide) (t := .int) (t' := .int) (by decide) (by decide))))
    have go213 : Go p e below s₁ F0 T210 (mkF m 177 #[vr a1, vr a2, vi (0 : Int32), vi hs2, vi (31 : Int32), vi t, vi (1 : Int32)] [(.ref a1), (.int (1 : Int32)), (.ref bw), (.int (0 : Int32)), (.ref a2)]) := by
      intro t_ k_
      refine go211 t_ ?_
      refine o_iload X210 hx (hb hby d4_174) rfl ?_
      refine o_aloadN X210 hx (hb hby d4_176) rfl rfl ?_
      exact k_
    obtain ⟨T214, X214, e214, st214⟩ := getF X210 hx hZ hown (host := "") (Or.inl (own_w hw 10 rfl)) Via.refl e210 F212 (g := (mkF m 177 #[vr a1, vr a2, vi (0 : Int32), vi hs2, vi (31 : Int32), vi t, vi (1 : Int32)] [(.ref a1), (.int (1 : Int32)), (.ref bw), (.int (0 : Int32)), (.ref a2)])) rfl rfl (hb hby d4_177)
    have go215 : Go p e below s₁ F0 T214 (mkF m 180 #[vr a1, vr a2, vi (0 : Int32), vi hs2, vi (31 : Int32), vi t, vi (1 : Int32)] [(.int (2 : Int32)), (.int (1 : Int32)), (.ref bw), (.int (0 : Int32)), (.ref a2)]) := fun t_ k_ => go213 t_ (st214 t_ k_)
    have go216 : Go p e below s₁ F0 T214 (mkF m 182 #[vr a1, vr a2, vi (0 : Int32), vi hs2, vi (31 : Int32), vi t, vi (1 : Int32)] [(.ref a1), (.int (2 : Int32)), (.ref bw), (.int (0 : Int32)), (.ref a2)]) := by
      intro t_ k_
      refine go215 t_ ?_
      refine o_imulE X214 hx (hb hby d4_180) (v := 2) rfl ?_
      refine o_aloadN X214 hx (hb hby d4_181) rfl rfl ?_
      exact k_
    obtain ⟨T217, X217, e217, st217⟩ := getF X214 hx hZ hown (host := "") (Or.inl (own_w hw 10 rfl)) Via.refl e214 F212 (g := (mkF m 182 #[vr a1, vr a2, vi (0 : Int32), vi hs2, vi (31 : Int32), vi t, vi (1 : Int32)] [(.ref a1), (.int (2 : Int32)), (.ref bw), (.int (0 : Int32)), (.ref a2)])) rfl rfl (hb hby d4_182)
    have go218 : Go p e below s₁ F0 T217 (mkF m 185 #[vr a1, vr a2, vi (0 : Int32), vi hs2, vi (31 : Int32), vi t, vi (1 : Int32)] [(.int (2 : Int32)), (.int (2 : Int32)), (.ref bw), (.int (0 : Int32)), (.ref a2)]) := fun t_ k_ => go216 t_ (st217 t_ k_)
    have F219 : Arv Z h199 a2 k2 .long (2 : Int32) [(.long y0), (.long y1)] (.long (0 : Int64)) := (V2.other W199 (Ne.symm n12))
    have F220 : Arv Z h199 bw kw .long (32 : Int32) ((.long x0) :: (.long x1) :: own_zl 30) (.long (0 : Int64)) := (Vw.other W199 (Ne.symm naw))
    obtain ⟨T221, h221, L221, X221, e221, N221, Kc221, Vc221, st221⟩ := cpA X217 hx hZ hown (own_w hw 38 rfl) (own_w hw 41 rfl) (own_w hw 39 rfl) (own_w hw 40 rfl) e217 F219 F220 (Or.inl ⟨rfl, rfl⟩) (by decide) (by decide) (by decide) (by decide) (by decide) (us := [(.long y0), (.long y1)]) rfl (Nat.le_of_ble_eq_true rfl) N199 gw (g := (mkF m 185 #[vr a1, vr a2, vi (0 : Int32), vi hs2, vi (31 : Int32), vi t, vi (1 : Int32)] [(.int (2 : Int32)), (.int (2 : Int32)), (.ref bw), (.int (0 : Int32)), (.ref a2)])) rfl (by rw [hml]; rfl) rfl (hb hby d4_185) (by decide) (W := 0) (by show 2 * 0 + _ ≤ _; exact Nat.le_of_eq rfl) (by decide)
    have V221 : Arv Z h221 bw kw .long (32 : Int32) ((.long x0) :: (.long x1) :: (.long y0) :: (.long y1) :: own_zl 28) (.long (0 : Int64)) := Vc221
    have K222 : Keep h0 h221 [a1, bw, bh, bs] := K200.trans Kc221 (allS (Or.inl (List.mem_of_getElem? (i := 1) rfl)) all0)
    have Z222 : n0 ≤ h221.size := Nat.le_trans Z200 Kc221.1
    have go223 : Go p e below s₁ F0 T221 (mkF m 188 #[vr a1, vr a2, vi (0 : Int32), vi hs2, vi (31 : Int32), vi t, vi (1 : Int32)] []) := fun t_ k_ => go218 t_ (st221 t_ k_)
    have F224 : Fld Z h221 a1 c_0 "hashes" "[I" (.ref bh) := (F202.keep Kc221 (ninS naw nin0))
    have go225 : Go p e below s₁ F0 T221 (mkF m 189 #[vr a1, vr a2, vi (0 : Int32), vi hs2, vi (31 : Int32), vi t, vi (1 : Int32)] [(.ref a1)]) := by
      intro t_ k_
      refine go223 t_ ?_
      refine o_aloadN X221 hx (hb hby d4_188) rfl rfl ?_
      exact k_
    obtain ⟨T226, X226, e226, st226⟩ := getF X221 hx hZ hown (host := "") (Or.inl (own_w hw 15 rfl)) Via.refl e221 F224 (g := (mkF m 189 #[vr a1, vr a2, vi (0 : Int32), vi hs2, vi (31 : Int32), vi t, vi (1 : Int32)] [(.ref a1)])) rfl rfl (hb hby d4_189)
    have go227 : Go p e below s₁ F0 T226 (mkF m 192 #[vr a1, vr a2, vi (0 : Int32), vi hs2, vi (31 : Int32), vi t, vi (1 : Int32)] [(.ref bh)]) := fun t_ k_ => go225 t_ (st226 t_ k_)
    have F228 : Arv Z h221 bh kh .int (16 : Int32) ((.int hs) :: own_zi 15) (.int (0 : Int32)) := (F206.keep Kc221 (ninS (Ne.symm nwh) nin0))
    have go229 : Go p e below s₁ F0 T226 (mkF m 195 #[vr a1, vr a2, vi (0 : Int32), vi hs2, vi (31 : Int32), vi t, vi (1 : Int32)] [(.int hs2), (.int (1 : Int32)), (.ref bh)]) := by
      intro t_ k_
      refine go227 t_ ?_
      refine o_iload X226 hx (hb hby d4_192) rfl ?_
      refine o_iloadN X226 hx (hb hby d4_194) rfl ?_
      exact k_
    obtain ⟨cl230, Ar230, q230, Sz230, Nn230, Hs230, G230⟩ := id F228
    have hin230 : ¬ ((1 : Int32) < 0 ∨ cl230.slots.size ≤ ((1 : Int32)).toNatClampNeg) := inb_of Sz230 ⟨by decide, by decide⟩
    obtain ⟨T230, h230, X230, e230, W230, st230⟩ := stI X226 hx hZ e226 Ar230 (j := (1 : Int32)) hin230 (g := (mkF m 195 #[vr a1, vr a2, vi (0 : Int32), vi hs2, vi (31 : Int32), vi t, vi (1 : Int32)] [(.int hs2), (.int (1 : Int32)), (.ref bh)])) rfl rfl (hb hby d4_195)
    have V230 : Arv Z h230 bh kh .int (16 : Int32) ((.int hs) :: (.int hs2) :: own_zi 14) (.int (0 : Int32)) := Arv.set Ar230 q230 Sz230 Nn230 Hs230 G230 rfl W230 1 rfl (Nat.le_of_ble_eq_true rfl)
    have K231 : Keep h0 h230 [a1, bw, bh, bs] := K222.wr W230 (Or.inl (List.mem_of_getElem? (i := 2) rfl))
    have Z231 : n0 ≤ h230.size := Nat.le_trans Z222 (Keep.of_wr W230).1
    have N230 := Fr.snoc X230 N221 gh
    have go232 : Go p e below s₁ F0 T230 (mkF m 196 #[vr a1, vr a2, vi (0 : Int32), vi hs2, vi (31 : Int32), vi t, vi (1 : Int32)] []) := fun t_ k_ => go229 t_ (st230 t_ k_)
    have F233 : Fld Z h230 a1 c_0 "slots" "[I" (.ref bs) := (((Fsl.other W199 (Or.inr (slot_ne (Or.inl (own_w hw 18 rfl)) (Or.inl (own_w hw 37 rfl)) (by decide) (t := (.array .int)) (t' := .int) (by decide) (by decide)))).keep Kc221 (ninS naw nin0)).other W230 (Or.inl nah))
    have go234 : Go p e below s₁ F0 T230 (mkF m 197 #[vr a1, vr a2, vi (0 : Int32), vi hs2, vi (31 : Int32), vi t, vi (1 : Int32)] [(.ref a1)]) := by
      intro t_ k_
      refine go232 t_ ?_
      refine o_aloadN X230 hx (hb hby d4_196) rfl rfl ?_
      exact k_
    obtain ⟨T235, X235, e235, st235⟩ := getF X230 hx hZ hown (host := "") (Or.inl (own_w hw 17 rfl)) Via.refl e230 F233 (g := (mkF m 197 #[vr a1, vr a2, vi (0 : Int32), vi hs2, vi (31 : Int32), vi t, vi (1 : Int32)] [(.ref a1)])) rfl rfl (hb hby d4_197)
    have go236 : Go p e below s₁ F0 T235 (mkF m 200 #[vr a1, vr a2, vi (0 : Int32), vi hs2, vi (31 : Int32), vi t, vi (1 : Int32)] [(.ref bs)]) := fun t_ k_ => go234 t_ (st235 t_ k_)
    have F237 : Arv Z h230 bs ks .int (32 : Int32) (own_sl sl) (.int (0 : Int32)) := (((Vs.other W199 (Ne.symm nas)).keep Kc221 (ninS (Ne.symm nws) nin0)).other W230 (Ne.symm nhs))
    have go238 : Go p e below s₁ F0 T235 (mkF m 206 #[vr a1, vr a2, vi (0 : Int32), vi hs2, vi (31 : Int32), vi t, vi (1 : Int32)] [(.int (2 : Int32)), (.int t), (.ref bs)]) := by
      intro t_ k_
      refine go236 t_ ?_
      refine o_iload X235 hx (hb hby d4_200) rfl ?_
      refine o_iload X235 hx (hb hby d4_202) rfl ?_
      refine o_iconst X235 hx (hb hby d4_204) (v := 1) rfl ?_
      refine o_iaddE X235 hx (hb hby d4_205) (v := 2) rfl ?_
      exact k_
    obtain ⟨cl239, Ar239, q239, Sz239, Nn239, Hs239, G239⟩ := id F237
    have hin239 : ¬ (t < 0 ∨ cl239.slots.size ≤ (t).toNatClampNeg) := inb_of Sz239 (own_in h_t)
    obtain ⟨T239, h239, X239, e239, W239, st239⟩ := stI X235 hx hZ e235 Ar239 (j := t) hin239 (g := (mkF m 206 #[vr a1, vr a2, vi (0 : Int32), vi hs2, vi (31 : Int32), vi t, vi (1 : Int32)] [(.int (2 : Int32)), (.int t), (.ref bs)])) rfl rfl (hb hby d4_206)
    have V239 : Arv Z h239 bs ks .int (32 : Int32) ((own_sl sl).set t.toNatClampNeg (.int (2 : Int32))) (.int (0 : Int32)) := Arv.set Ar239 q239 Sz239 Nn239 Hs239 G239 rfl W239 t.toNatClampNeg rfl (own_ls (own_in h_t))
    have K240 : Keep h0 h239 [a1, bw, bh, bs] := K231.wr W239 (Or.inl (List.mem_of_getElem? (i := 3) rfl))
    have Z240 : n0 ≤ h239.size := Nat.le_trans Z231 (Keep.of_wr W239).1
    have N239 := Fr.snoc X239 N230 gs
    have go241 : Go p e below s₁ F0 T239 (mkF m 207 #[vr a1, vr a2, vi (0 : Int32), vi hs2, vi (31 : Int32), vi t, vi (1 : Int32)] []) := fun t_ k_ => go238 t_ (st239 t_ k_)
    have F242 : Fld Z h239 a1 c_0 "count" "I" (.int (2 : Int32)) := (((Fw199.keep Kc221 (ninS naw nin0)).other W230 (Or.inl nah)).other W239 (Or.inl nas))
    have go243 : Go p e below s₁ F0 T239 (mkF m 209 #[vr a1, vr a2, vi (0 : Int32), vi hs2, vi (31 : Int32), vi t, vi (1 : Int32)] [(.ref a1), (.int (2 : Int32))]) := by
      intro t_ k_
      refine go241 t_ ?_
      refine o_iconst X239 hx (hb hby d4_207) (v := 2) rfl ?_
      refine o_aloadN X239 hx (hb hby d4_208) rfl rfl ?_
      exact k_
    obtain ⟨T244, X244, e244, st244⟩ := getF X239 hx hZ hown (host := "") (Or.inl (own_w hw 36 rfl)) Via.refl e239 F242 (g := (mkF m 209 #[vr a1, vr a2, vi (0 : Int32), vi hs2, vi (31 : Int32), vi t, vi (1 : Int32)] [(.ref a1), (.int (2 : Int32))])) rfl rfl (hb hby d4_209)
    have go245 : Go p e below s₁ F0 T244 (mkF m 212 #[vr a1, vr a2, vi (0 : Int32), vi hs2, vi (31 : Int32), vi t, vi (1 : Int32)] [(.int (2 : Int32)), (.int (2 : Int32))]) := fun t_ k_ => go243 t_ (st244 t_ k_)
    have F246 : Fld Z h239 a1 c_0 "slots" "[I" (.ref bs) := (F233.other W239 (Or.inl nas))
    have go247 : Go p e below s₁ F0 T244 (mkF m 214 #[vr a1, vr a2, vi (0 : Int32), vi hs2, vi (31 : Int32), vi t, vi (1 : Int32)] [(.ref a1), (.int (4 : Int32))]) := by
      intro t_ k_
      refine go245 t_ ?_
      refine o_imulE X244 hx (hb hby d4_212) (v := 4) rfl ?_
      refine o_aloadN X244 hx (hb hby d4_213) rfl rfl ?_
      exact k_
    obtain ⟨T248, X248, e248, st248⟩ := getF X244 hx hZ hown (host := "") (Or.inl (own_w hw 17 rfl)) Via.refl e244 F246 (g := (mkF m 214 #[vr a1, vr a2, vi (0 : Int32), vi hs2, vi (31 : Int32), vi t, vi (1 : Int32)] [(.ref a1), (.int (4 : Int32))])) rfl rfl (hb hby d4_214)
    have go249 : Go p e below s₁ F0 T248 (mkF m 217 #[vr a1, vr a2, vi (0 : Int32), vi hs2, vi (31 : Int32), vi t, vi (1 : Int32)] [(.ref bs), (.int (4 : Int32))]) := fun t_ k_ => go247 t_ (st248 t_ k_)
    obtain ⟨cl250, Ar250, -, Sz250, Nn250, -, -⟩ := id V239
    have go251 : Go p e below s₁ F0 T248 (mkF m 227 #[vr a1, vr a2, vi (0 : Int32), vi hs2, vi (31 : Int32), vi t, vi (1 : Int32)] [(.int (1 : Int32))]) := by
      intro t_ k_
      refine go249 t_ ?_
      refine o_len X248 hx hZ e248 Ar250 Sz250 Nn250 (hb hby d4_217) ?_
      refine o_icmpYes X248 hx (hb hby d4_218) (pc' := 225) rfl (by decide) (flt (by decide : ¬ ((32 : Int32) < (4 : Int32)))).2.2.2 ?_
      refine o_iload X248 hx (hb hby d4_225) rfl ?_
      exact k_
    obtain ⟨fs, hr, hrun, hended, hW, hsame⟩ := X248.leave (v := some (.int (1 : Int32))) (fun h => by rw [Bd.returns] at h; cases h)
    refine ⟨_, _, pre0 _ (go251 _ ?_), hrun, hended, _, _, rfl, ?_, ⟨_, rfl⟩, hW, hsame.mono (by decide) (by decide)⟩
    · skip
      exact retI X248 hx Bd.returns (hb hby d4_227) hr
    · show Q4_b2 Z a1 a2 bw bh bs kw kh ks k2 hs sl x0 x1 y0 y1 h0 n0 _ T248.heap _
      rw [e248]
      have F252 : Fld Z h239 a1 c_0 "width" "I" (.int (2 : Int32)) := (((F212.keep Kc221 (ninS naw nin0)).other W230 (Or.inl nah)).other W239 (Or.inl nas))
      have F253 : Fld Z h239 a1 c_0 "words" "[J" (.ref bw) := (((F208.keep Kc221 (ninS naw nin0)).other W230 (Or.inl nah)).other W239 (Or.inl nas))
      have F254 : Arv Z h239 bw kw .long (32 : Int32) ((.long x0) :: (.long x1) :: (.long y0) :: (.long y1) :: own_zl 28) (.long (0 : Int64)) := ((V221.other W230 nwh).other W239 nws)
      exact ⟨(1 : Int32), y0, y1, rfl, N239, K240, F252, F253, F254, (Or.inr ⟨rfl, (own_neT_2 hhs hsl h_hs2 h_t hb52_31), rfl, rfl⟩)⟩

theorem pn_3_b2 : plainName "com/example/grammar_game_solver/grammargamesolver/summary/NumberedSets" = true := by first | (simp [plainName, overriddenIn]; done) | decide +kernel
theorem pd3_b2_0 : parseMethodDescriptor "([JI)I" = some ⟨[(.array .long), .int], some .int⟩ := by decide +kernel
theorem ef_3_b2 (m : MethodId) (x0 : Addr) (x1 : Addr) : entryFrame m #[(.ref x0), (.ref x1)] 2 = mkF m 0 #[vr x0, vr x1] [] := by first | (simp [entryFrame, mkF, argsToLocals, Value.category]; done) | rfl
def Q3_b2 (Z : State) (a1 : Addr) (a2 : Addr) (bw : Addr) (bh : Addr) (bs : Addr) (kw : ClassId) (kh : ClassId) (ks : ClassId) (k2 : ClassId) (hs : Int32) (sl : Int32) (x0 : Int64) (x1 : Int64) (y0 : Int64) (y1 : Int64) (h0 : Heap) (n0 : Nat) (v : Option Value) (h : Heap) (L : List Loc) : Prop := ∃ n : Int32, ∃ w0 : Int64, ∃ w1 : Int64, v = some (.int n) ∧ Fr n0 L ∧ Keep h0 h [a1, bw, bh, bs] ∧ Fld Z h a1 c_0 "width" "I" (.int (2 : Int32)) ∧ Fld Z h a1 c_0 "words" "[J" (.ref bw) ∧ Arv Z h bw kw .long (32 : Int32) ((.long x0) :: (.long x1) :: (.long w0) :: (.long w1) :: own_zl 28) (.long (0 : Int64)) ∧ ((n = (0 : Int32) ∧ (x0 = y0 ∧ x1 = y1)) ∨ (n = (1 : Int32) ∧ ¬ (x0 = y0 ∧ x1 = y1) ∧ w0 = y0 ∧ w1 = y1))
set_option maxRecDepth 65536 in
set_option maxHeartbeats 40000000 in
theorem rm3_b2 (l : Launch) (Z : State) (a0 : Array Value) (hw : ∀ d ∈ tables_1, d.before a0 Z = true) (ws : List Jvm.Cond) (a1 : Addr) (a2 : Addr) (bw : Addr) (bh : Addr) (bs : Addr) (kw : ClassId) (kh : ClassId) (ks : ClassId) (k2 : ClassId) (hs : Int32) (sl : Int32) (x0 : Int64) (x1 : Int64) (y0 : Int64) (y1 : Int64) (h0 : Heap) (n0 : Nat) (Z0 : n0 ≤ h0.size) (E0 : Exa Z h0 a1 c_0) (Fwi : Fld Z h0 a1 c_0 "width" "I" (.int (2 : Int32))) (Fwo : Fld Z h0 a1 c_0 "words" "[J" (.ref bw)) (Fha : Fld Z h0 a1 c_0 "hashes" "[I" (.ref bh)) (Fsl : Fld Z h0 a1 c_0 "slots" "[I" (.ref bs)) (Fco : Fld Z h0 a1 c_0 "count" "I" (.int (1 : Int32))) (Vw : Arv Z h0 bw kw .long (32 : Int32) ((.long x0) :: (.long x1) :: own_zl 30) (.long (0 : Int64))) (Vh : Arv Z h0 bh kh .int (16 : Int32) ((.int hs) :: own_zi 15) (.int (0 : Int32))) (Vs : Arv Z h0 bs ks .int (32 : Int32) (own_sl sl) (.int (0 : Int32))) (V2 : Arv Z h0 a2 k2 .long (2 : Int32) [(.long y0), (.long y1)] (.long (0 : Int64))) (g1 : n0 ≤ a1) (gw : n0 ≤ bw) (gh : n0 ≤ bh) (gs : n0 ≤ bs) (naw : a1 ≠ bw) (nah : a1 ≠ bh) (nas : a1 ≠ bs) (n2w : a2 ≠ bw) (n2h : a2 ≠ bh) (n2s : a2 ≠ bs) (n12 : a1 ≠ a2) (nwh : bw ≠ bh) (nws : bw ≠ bs) (nhs : bh ≠ bs) (hhs : hs = (((31 : Int32) * ((31 : Int32) + (f5 x0))) + (f5 x1))) (hsl : sl = (f6 hs (31 : Int32))) :
    MetFree l y_4 (head1 (Jvm.Cond.code y_4 prog_63_method_4_code 2 (some .int) :: ws) ({ frames := 2, cells := 0, slots := 0, locals := 36 } : Room)) (fun a U => a = #[(.ref a1), (.ref a2)] ∧ Z.Warmed39 U.vm ∧ U.heap = h0) (fun _ _ _ _ _ => True) (fun _ U o U' => ∃ v L, o = .returned v ∧ Q3_b2 Z a1 a2 bw bh bs kw kh ks k2 hs sl x0 x1 y0 y1 h0 n0 v U'.heap L ∧ FrameEnd U o U' L ({ frames := 2, cells := 0, slots := 0, locals := 36 } : Room).cells ({ frames := 2, cells := 0, slots := 0, locals := 36 } : Room).slots) := by
  refine MetFree.of_bodySF (plainFor_of_name pn_3_b2) hisR ?_
  intro p e s m args below meth c s₁ Bd hml0 hP hK
  obtain ⟨rfl, hZ, hh⟩ := hP
  have hx := Bd.exec
  have hby := Bd.bytes
  have hml : c.maxLocals = 2 := hml0
  have hown : s.vm.findClass "com/example/grammar_game_solver/grammargamesolver/summary/NumberedSets" = some m.cls := findClass_of_methodNamed Bd.named
  have hnm := (name_of_methodNamed Bd.named Bd.method).1
  have X0 : Stand p l e ({ frames := 2, cells := 0, slots := 0, locals := 36 } : Room) s m #[(.ref a1), (.ref a2)] below meth c s₁ [] 0 0 := Stand.of_body Bd
  have e0 : s₁.heap = h0 := by rw [← hh, Bd.state]; rfl
  have N0 := Fr.nil n0
  have K0 : Keep h0 h0 [a1, bw, bh, bs] := Keep.refl h0 [a1, bw, bh, bs]
  obtain ⟨F0, hF0⟩ : ∃ F : JFrame, F = entryFrame m #[(.ref a1), (.ref a2)] 2 := ⟨_, rfl⟩
  have pre0 : ∀ t, Steps p.tables e below (s₁.setTop F0) t → Steps p.tables e below (s₁.setTop (entryFrame m #[(.ref a1), (.ref a2)] 2)) t := fun t k => hF0 ▸ k
  have go0 : Go p e below s₁ F0 s₁ (mkF m 0 #[vr a1, vr a2] []) := fun t k => castTop (hF0.trans (ef_3_b2 m a1 a2)) k
  have go1 : Go p e below s₁ F0 s₁ (mkF m 3 #[vr a1, vr a2] [(.int (0 : Int32)), (.ref a2), (.ref a1)]) := by
    intro t_ k_
    refine go0 t_ ?_
    refine o_aloadN X0 hx (hb hby d3_0) rfl rfl ?_
    refine o_aloadN X0 hx (hb hby d3_1) rfl rfl ?_
    refine o_iconst X0 hx (hb hby d3_2) (v := 0) rfl ?_
    exact k_
  obtain ⟨cq2, q2, q2'⟩ := E0.cell
  obtain ⟨_, _, ⟨T2, L2, k2, n2⟩, -, X2, ⟨Lc2, hQ2, l2, y2, z2⟩, st2⟩ := X0.privateBack hx (y := y_3) hown (mvT hZ (own_w hw 24 rfl)) (mvT hZ (own_w hw 25 rfl)) (own_selp (mvT hZ (own_w hw 2 rfl)) (mvP hZ (own_w hw 26 rfl)) (mvT hZ (own_w hw 25 rfl)) (by decide)) (Cond.privateMethod_at (mvP hZ (own_w hw 26 rfl) (args := #[]))) (mvT hZ (own_w hw 27 rfl)) (by decide) (backOf (W := 0) (rm4_b2 l Z a0 hw [] a1 a2 bw bh bs kw kh ks k2 hs sl x0 x1 y0 y1 h0 n0 Z0 E0 Fwi Fwo Fha Fsl Fco Vw Vh Vs V2 g1 gw gh gs naw nah nas n2w n2h n2s n12 nwh nws nhs hhs hsl) hZ (own_w hw 27 rfl) (own_w hw 3 rfl) (by decide) (by decide)) (g := (mkF m 3 #[vr a1, vr a2] [(.int (0 : Int32)), (.ref a2), (.ref a1)])) rfl (by rw [hml]; rfl) (Steps.refl _) (a := a1) (by rw [e0]; exact q2) q2' (argsL := [(.ref a2), (.int (0 : Int32))]) (rest := []) (lenOf pd3_b2_0 rfl) rfl (by show 2 * 0 + _ ≤ _; exact Nat.le_of_eq rfl) (hb hby d3_3) (fun _ _ => ⟨rfl, e0, (by decide : 0 + 0 ≤ _), (by decide : 0 + 0 ≤ _)⟩)
  dsimp only [Pt.U, Pt.locs, Pt.cells, Pt.slots] at X2 l2 y2 z2 st2 hQ2
  subst l2 y2 z2
  obtain ⟨n_2, w0_2, w1_2, rfl, Nq2, Kc2, Fwi_2, Fwo_2, Vw_2, hP_2⟩ := hQ2
  have N2 := Fr.app N0 Nq2
  have K3 : Keep h0 T2.heap [a1, bw, bh, bs] := K0.trans Kc2 (allS (Or.inl (List.mem_of_getElem? (i := 0) rfl)) (allS (Or.inl (List.mem_of_getElem? (i := 1) rfl)) (allS (Or.inl (List.mem_of_getElem? (i := 2) rfl)) (allS (Or.inl (List.mem_of_getElem? (i := 3) rfl)) all0))))
  have Z3 : n0 ≤ T2.heap.size := Nat.le_trans Z0 Kc2.1
  have go4 : Go p e below s₁ F0 T2 (mkF m 6 #[vr a1, vr a2] [(.int n_2)]) := fun t_ k_ => go1 t_ (st2.trans k_)
  obtain ⟨fs, hr, hrun, hended, hW, hsame⟩ := X2.leave (v := some (.int n_2)) (fun h => by rw [Bd.returns] at h; cases h)
  refine ⟨_, _, pre0 _ (go4 _ ?_), hrun, hended, _, _, rfl, ?_, ⟨_, rfl⟩, hW, hsame.mono (by decide) (by decide)⟩
  · skip
    exact retI X2 hx Bd.returns (hb hby d3_6) hr
  · show Q3_b2 Z a1 a2 bw bh bs kw kh ks k2 hs sl x0 x1 y0 y1 h0 n0 _ T2.heap _
    exact ⟨n_2, w0_2, w1_2, rfl, N2, K3, Fwi_2, Fwo_2, Vw_2, (by first | assumption | decide | omega)⟩


theorem own_or {n : Int32} {P R : Prop} (h : (n = (0 : Int32) ∧ P) ∨ (n = (1 : Int32) ∧ R)) : n = (0 : Int32) ∨ n = (1 : Int32) := h.imp And.left And.left
theorem own_l {n : Int32} {P R : Prop} (h : (n = (0 : Int32) ∧ P) ∨ (n = (1 : Int32) ∧ R)) (e : n = (0 : Int32)) : P := by
  rcases h with h | h
  · exact h.2
  · exact absurd (e.symm.trans h.1) (by decide)
theorem own_r {n : Int32} {P R : Prop} (h : (n = (0 : Int32) ∧ P) ∨ (n = (1 : Int32) ∧ R)) (e : n = (1 : Int32)) : R := by
  rcases h with h | h
  · exact absurd (e.symm.trans h.1) (by decide)
  · exact h.2

theorem d8_0 : decode prog_63_method_7_code 0 = .ok (.aload_n 0, 1) := by decide +kernel
theorem d8_1 : decode prog_63_method_7_code 1 = .ok (.getfield 13, 3) := by decide +kernel
theorem d8_4 : decode prog_63_method_7_code 4 = .ok (.iload_n 1, 1) := by decide +kernel
theorem d8_5 : decode prog_63_method_7_code 5 = .ok (.aload_n 0, 1) := by decide +kernel
theorem d8_6 : decode prog_63_method_7_code 6 = .ok (.getfield 7, 3) := by decide +kernel
theorem d8_9 : decode prog_63_method_7_code 9 = .ok (.imul, 1) := by decide +kernel
theorem d8_10 : decode prog_63_method_7_code 10 = .ok (.iload_n 2, 1) := by decide +kernel
theorem d8_11 : decode prog_63_method_7_code 11 = .ok (.iadd, 1) := by decide +kernel
theorem d8_12 : decode prog_63_method_7_code 12 = .ok (.laload, 1) := by decide +kernel
theorem d8_13 : decode prog_63_method_7_code 13 = .ok (.lreturn, 1) := by decide +kernel
theorem pn_8_0_0 : plainName "com/example/grammar_game_solver/grammargamesolver/summary/NumberedSets" = true := by first | (simp [plainName, overriddenIn]; done) | decide +kernel
theorem ef_8_0_0 (m : MethodId) (x0 : Addr) : entryFrame m #[(.ref x0), (.int (0 : Int32)), (.int (0 : Int32))] 3 = mkF m 0 #[vr x0, vi (0 : Int32), vi (0 : Int32)] [] := by first | (simp [entryFrame, mkF, argsToLocals, Value.category]; done) | rfl
def Q8_0_0 (Z : State) (a1 : Addr) (bw : Addr) (kw : ClassId) (w0 : Int64) (w1 : Int64) (w2 : Int64) (w3 : Int64) (h0 : Heap) (n0 : Nat) (v : Option Value) (h : Heap) (L : List Loc) : Prop := v = some (.long w0) ∧ Fr n0 L ∧ h = h0
set_option maxRecDepth 65536 in
set_option maxHeartbeats 40000000 in
theorem rm8_0_0 (l : Launch) (Z : State) (a0 : Array Value) (hw : ∀ d ∈ tables_1, d.before a0 Z = true) (ws : List Jvm.Cond) (a1 : Addr) (bw : Addr) (kw : ClassId) (w0 : Int64) (w1 : Int64) (w2 : Int64) (w3 : Int64) (h0 : Heap) (n0 : Nat) (Z0 : n0 ≤ h0.size) (Fwi : Fld Z h0 a1 c_0 "width" "I" (.int (2 : Int32))) (Fwo : Fld Z h0 a1 c_0 "words" "[J" (.ref bw)) (Vw : Arv Z h0 bw kw .long (32 : Int32) ((.long w0) :: (.long w1) :: (.long w2) :: (.long w3) :: own_zl 28) (.long (0 : Int64))) :
    MetFree l y_6 (head1 (Jvm.Cond.code y_6 prog_63_method_7_code 3 (some .long) :: ws) ({ frames := 0, cells := 0, slots := 0, locals := 0 } : Room)) (fun a U => a = #[(.ref a1), (.int (0 : Int32)), (.int (0 : Int32))] ∧ Z.Warmed39 U.vm ∧ U.heap = h0) (fun _ _ _ _ _ => True) (fun _ U o U' => ∃ v L, o = .returned v ∧ Q8_0_0 Z a1 bw kw w0 w1 w2 w3 h0 n0 v U'.heap L ∧ FrameEnd U o U' L ({ frames := 0, cells := 0, slots := 0, locals := 0 } : Room).cells ({ frames := 0, cells := 0, slots := 0, locals := 0 } : Room).slots) := by
  refine MetFree.of_bodySF (plainFor_of_name pn_8_0_0) hisR ?_
  intro p e s m args below meth c s₁ Bd hml0 hP hK
  obtain ⟨rfl, hZ, hh⟩ := hP
  have hx := Bd.exec
  have hby := Bd.bytes
  have hml : c.maxLocals = 3 := hml0
  have hown : s.vm.findClass "com/example/grammar_game_solver/grammargamesolver/summary/NumberedSets" = some m.cls := findClass_of_methodNamed Bd.named
  have hnm := (name_of_methodNamed Bd.named Bd.method).1
  have X0 : Stand p l e ({ frames := 0, cells := 0, slots := 0, locals := 0 } : Room) s m #[(.ref a1), (.int (0 : Int32)), (.int (0 : Int32))] below meth c s₁ [] 0 0 := Stand.of_body Bd
  have e0 : s₁.heap = h0 := by rw [← hh, Bd.state]; rfl
  have N0 := Fr.nil n0
  obtain ⟨F0, hF0⟩ : ∃ F : JFrame, F = entryFrame m #[(.ref a1), (.int (0 : Int32)), (.int (0 : Int32))] 3 := ⟨_, rfl⟩
  have pre0 : ∀ t, Steps p.tables e below (s₁.setTop F0) t → Steps p.tables e below (s₁.setTop (entryFrame m #[(.ref a1), (.int (0 : Int32)), (.int (0 : Int32))] 3)) t := fun t k => hF0 ▸ k
  have go0 : Go p e below s₁ F0 s₁ (mkF m 0 #[vr a1, vi (0 : Int32), vi (0 : Int32)] []) := fun t k => castTop (hF0.trans (ef_8_0_0 m a1)) k
  have go1 : Go p e below s₁ F0 s₁ (mkF m 1 #[vr a1, vi (0 : Int32), vi (0 : Int32)] [(.ref a1)]) := by
    intro t_ k_
    refine go0 t_ ?_
    refine o_aloadN X0 hx (hb hby d8_0) rfl rfl ?_
    exact k_
  obtain ⟨T2, X2, e2, st2⟩ := getF X0 hx hZ hown (host := "") (Or.inl (own_w hw 12 rfl)) Via.refl e0 Fwo (g := (mkF m 1 #[vr a1, vi (0 : Int32), vi (0 : Int32)] [(.ref a1)])) rfl rfl (hb hby d8_1)
  have go3 : Go p e below s₁ F0 T2 (mkF m 4 #[vr a1, vi (0 : Int32), vi (0 : Int32)] [(.ref bw)]) := fun t_ k_ => go1 t_ (st2 t_ k_)
  have go4 : Go p e below s₁ F0 T2 (mkF m 6 #[vr a1, vi (0 : Int32), vi (0 : Int32)] [(.ref a1), (.int (0 : Int32)), (.ref bw)]) := by
    intro t_ k_
    refine go3 t_ ?_
    refine o_iloadN X2 hx (hb hby d8_4) rfl ?_
    refine o_aloadN X2 hx (hb hby d8_5) rfl rfl ?_
    exact k_
  obtain ⟨T5, X5, e5, st5⟩ := getF X2 hx hZ hown (host := "") (Or.inl (own_w hw 10 rfl)) Via.refl e2 Fwi (g := (mkF m 6 #[vr a1, vi (0 : Int32), vi (0 : Int32)] [(.ref a1), (.int (0 : Int32)), (.ref bw)])) rfl rfl (hb hby d8_6)
  have go6 : Go p e below s₁ F0 T5 (mkF m 9 #[vr a1, vi (0 : Int32), vi (0 : Int32)] [(.int (2 : Int32)), (.int (0 : Int32)), (.ref bw)]) := fun t_ k_ => go4 t_ (st5 t_ k_)
  have go7 : Go p e below s₁ F0 T5 (mkF m 12 #[vr a1, vi (0 : Int32), vi (0 : Int32)] [(.int (0 : Int32)), (.ref bw)]) := by
    intro t_ k_
    refine go6 t_ ?_
    refine o_imulE X5 hx (hb hby d8_9) (v := 0) rfl ?_
    refine o_iloadN X5 hx (hb hby d8_10) rfl ?_
    refine o_iaddE X5 hx (hb hby d8_11) (v := 0) rfl ?_
    exact k_
  obtain ⟨cl8, Ar8, -, Sz8, Nn8, Hs8, -⟩ := id Vw
  have hin8 : ¬ ((0 : Int32) < 0 ∨ cl8.slots.size ≤ ((0 : Int32)).toNatClampNeg) := inb_of Sz8 ⟨by decide, by decide⟩
  have hat8 : cl8.slots[((0 : Int32)).toNatClampNeg]? = some (.long w0) := Hs8.at hin8 rfl
  have go9 : Go p e below s₁ F0 T5 (mkF m 13 #[vr a1, vi (0 : Int32), vi (0 : Int32)] [(.long w0)]) := by
    intro t_ k_
    refine go7 t_ ?_
    refine o_laload X5 hx hZ e5 Ar8 hin8 hat8 (hb hby d8_12) ?_
    exact k_
  obtain ⟨fs, hr, hrun, hended, hW, hsame⟩ := X5.leave (v := some (.long w0)) (fun h => by rw [Bd.returns] at h; cases h)
  refine ⟨_, _, pre0 _ (go9 _ ?_), hrun, hended, _, _, rfl, ?_, ⟨_, rfl⟩, hW, hsame.mono (by decide) (by decide)⟩
  · skip
    exact retOut X5 hx Bd.returns rfl (Or.inr (Or.inl ⟨rfl, rfl, _, rfl⟩)) (hb hby d8_13) hr
  · show Q8_0_0 Z a1 bw kw w0 w1 w2 w3 h0 n0 _ T5.heap _
    rw [e5]
    exact ⟨rfl, N0, rfl⟩

theorem pn_8_0_1 : plainName "com/example/grammar_game_solver/grammargamesolver/summary/NumberedSets" = true := by first | (simp [plainName, overriddenIn]; done) | decide +kernel
theorem ef_8_0_1 (m : MethodId) (x0 : Addr) : entryFrame m #[(.ref x0), (.int (0 : Int32)), (.int (1 : Int32))] 3 = mkF m 0 #[vr x0, vi (0 : Int32), vi (1 : Int32)] [] := by first | (simp [entryFrame, mkF, argsToLocals, Value.category]; done) | rfl
def Q8_0_1 (Z : State) (a1 : Addr) (bw : Addr) (kw : ClassId) (w0 : Int64) (w1 : Int64) (w2 : Int64) (w3 : Int64) (h0 : Heap) (n0 : Nat) (v : Option Value) (h : Heap) (L : List Loc) : Prop := v = some (.long w1) ∧ Fr n0 L ∧ h = h0
set_option maxRecDepth 65536 in
set_option maxHeartbeats 40000000 in
theorem rm8_0_1 (l : Launch) (Z : State) (a0 : Array Value) (hw : ∀ d ∈ tables_1, d.before a0 Z = true) (ws : List Jvm.Cond) (a1 : Addr) (bw : Addr) (kw : ClassId) (w0 : Int64) (w1 : Int64) (w2 : Int64) (w3 : Int64) (h0 : Heap) (n0 : Nat) (Z0 : n0 ≤ h0.size) (Fwi : Fld Z h0 a1 c_0 "width" "I" (.int (2 : Int32))) (Fwo : Fld Z h0 a1 c_0 "words" "[J" (.ref bw)) (Vw : Arv Z h0 bw kw .long (32 : Int32) ((.long w0) :: (.long w1) :: (.long w2) :: (.long w3) :: own_zl 28) (.long (0 : Int64))) :
    MetFree l y_6 (head1 (Jvm.Cond.code y_6 prog_63_method_7_code 3 (some .long) :: ws) ({ frames := 0, cells := 0, slots := 0, locals := 0 } : Room)) (fun a U => a = #[(.ref a1), (.int (0 : Int32)), (.int (1 : Int32))] ∧ Z.Warmed39 U.vm ∧ U.heap = h0) (fun _ _ _ _ _ => True) (fun _ U o U' => ∃ v L, o = .returned v ∧ Q8_0_1 Z a1 bw kw w0 w1 w2 w3 h0 n0 v U'.heap L ∧ FrameEnd U o U' L ({ frames := 0, cells := 0, slots := 0, locals := 0 } : Room).cells ({ frames := 0, cells := 0, slots := 0, locals := 0 } : Room).slots) := by
  refine MetFree.of_bodySF (plainFor_of_name pn_8_0_1) hisR ?_
  intro p e s m args below meth c s₁ Bd hml0 hP hK
  obtain ⟨rfl, hZ, hh⟩ := hP
  have hx := Bd.exec
  have hby := Bd.bytes
  have hml : c.maxLocals = 3 := hml0
  have hown : s.vm.findClass "com/example/grammar_game_solver/grammargamesolver/summary/NumberedSets" = some m.cls := findClass_of_methodNamed Bd.named
  have hnm := (name_of_methodNamed Bd.named Bd.method).1
  have X0 : Stand p l e ({ frames := 0, cells := 0, slots := 0, locals := 0 } : Room) s m #[(.ref a1), (.int (0 : Int32)), (.int (1 : Int32))] below meth c s₁ [] 0 0 := Stand.of_body Bd
  have e0 : s₁.heap = h0 := by rw [← hh, Bd.state]; rfl
  have N0 := Fr.nil n0
  obtain ⟨F0, hF0⟩ : ∃ F : JFrame, F = entryFrame m #[(.ref a1), (.int (0 : Int32)), (.int (1 : Int32))] 3 := ⟨_, rfl⟩
  have pre0 : ∀ t, Steps p.tables e below (s₁.setTop F0) t → Steps p.tables e below (s₁.setTop (entryFrame m #[(.ref a1), (.int (0 : Int32)), (.int (1 : Int32))] 3)) t := fun t k => hF0 ▸ k
  have go0 : Go p e below s₁ F0 s₁ (mkF m 0 #[vr a1, vi (0 : Int32), vi (1 : Int32)] []) := fun t k => castTop (hF0.trans (ef_8_0_1 m a1)) k
  have go1 : Go p e below s₁ F0 s₁ (mkF m 1 #[vr a1, vi (0 : Int32), vi (1 : Int32)] [(.ref a1)]) := by
    intro t_ k_
    refine go0 t_ ?_
    refine o_aloadN X0 hx (hb hby d8_0) rfl rfl ?_
    exact k_
  obtain ⟨T2, X2, e2, st2⟩ := getF X0 hx hZ hown (host := "") (Or.inl (own_w hw 12 rfl)) Via.refl e0 Fwo (g := (mkF m 1 #[vr a1, vi (0 : Int32), vi (1 : Int32)] [(.ref a1)])) rfl rfl (hb hby d8_1)
  have go3 : Go p e below s₁ F0 T2 (mkF m 4 #[vr a1, vi (0 : Int32), vi (1 : Int32)] [(.ref bw)]) := fun t_ k_ => go1 t_ (st2 t_ k_)
  have go4 : Go p e below s₁ F0 T2 (mkF m 6 #[vr a1, vi (0 : Int32), vi (1 : Int32)] [(.ref a1), (.int (0 : Int32)), (.ref bw)]) := by
    intro t_ k_
    refine go3 t_ ?_
    refine o_iloadN X2 hx (hb hby d8_4) rfl ?_
    refine o_aloadN X2 hx (hb hby d8_5) rfl rfl ?_
    exact k_
  obtain ⟨T5, X5, e5, st5⟩ := getF X2 hx hZ hown (host := "") (Or.inl (own_w hw 10 rfl)) Via.refl e2 Fwi (g := (mkF m 6 #[vr a1, vi (0 : Int32), vi (1 : Int32)] [(.ref a1), (.int (0 : Int32)), (.ref bw)])) rfl rfl (hb hby d8_6)
  have go6 : Go p e below s₁ F0 T5 (mkF m 9 #[vr a1, vi (0 : Int32), vi (1 : Int32)] [(.int (2 : Int32)), (.int (0 : Int32)), (.ref bw)]) := fun t_ k_ => go4 t_ (st5 t_ k_)
  have go7 : Go p e below s₁ F0 T5 (mkF m 12 #[vr a1, vi (0 : Int32), vi (1 : Int32)] [(.int (1 : Int32)), (.ref bw)]) := by
    intro t_ k_
    refine go6 t_ ?_
    refine o_imulE X5 hx (hb hby d8_9) (v := 0) rfl ?_
    refine o_iloadN X5 hx (hb hby d8_10) rfl ?_
    refine o_iaddE X5 hx (hb hby d8_11) (v := 1) rfl ?_
    exact k_
  obtain ⟨cl8, Ar8, -, Sz8, Nn8, Hs8, -⟩ := id Vw
  have hin8 : ¬ ((1 : Int32) < 0 ∨ cl8.slots.size ≤ ((1 : Int32)).toNatClampNeg) := inb_of Sz8 ⟨by decide, by decide⟩
  have hat8 : cl8.slots[((1 : Int32)).toNatClampNeg]? = some (.long w1) := Hs8.at hin8 rfl
  have go9 : Go p e below s₁ F0 T5 (mkF m 13 #[vr a1, vi (0 : Int32), vi (1 : Int32)] [(.long w1)]) := by
    intro t_ k_
    refine go7 t_ ?_
    refine o_laload X5 hx hZ e5 Ar8 hin8 hat8 (hb hby d8_12) ?_
    exact k_
  obtain ⟨fs, hr, hrun, hended, hW, hsame⟩ := X5.leave (v := some (.long w1)) (fun h => by rw [Bd.returns] at h; cases h)
  refine ⟨_, _, pre0 _ (go9 _ ?_), hrun, hended, _, _, rfl, ?_, ⟨_, rfl⟩, hW, hsame.mono (by decide) (by decide)⟩
  · skip
    exact retOut X5 hx Bd.returns rfl (Or.inr (Or.inl ⟨rfl, rfl, _, rfl⟩)) (hb hby d8_13) hr
  · show Q8_0_1 Z a1 bw kw w0 w1 w2 w3 h0 n0 _ T5.heap _
    rw [e5]
    exact ⟨rfl, N0, rfl⟩

theorem pn_8_1_0 : plainName "com/example/grammar_game_solver/grammargamesolver/summary/NumberedSets" = true := by first | (simp [plainName, overriddenIn]; done) | decide +kernel
theorem ef_8_1_0 (m : MethodId) (x0 : Addr) : entryFrame m #[(.ref x0), (.int (1 : Int32)), (.int (0 : Int32))] 3 = mkF m 0 #[vr x0, vi (1 : Int32), vi (0 : Int32)] [] := by first | (simp [entryFrame, mkF, argsToLocals, Value.category]; done) | rfl
def Q8_1_0 (Z : State) (a1 : Addr) (bw : Addr) (kw : ClassId) (w0 : Int64) (w1 : Int64) (w2 : Int64) (w3 : Int64) (h0 : Heap) (n0 : Nat) (v : Option Value) (h : Heap) (L : List Loc) : Prop := v = some (.long w2) ∧ Fr n0 L ∧ h = h0
set_option maxRecDepth 65536 in
set_option maxHeartbeats 40000000 in
theorem rm8_1_0 (l : Launch) (Z : State) (a0 : Array Value) (hw : ∀ d ∈ tables_1, d.before a0 Z = true) (ws : List Jvm.Cond) (a1 : Addr) (bw : Addr) (kw : ClassId) (w0 : Int64) (w1 : Int64) (w2 : Int64) (w3 : Int64) (h0 : Heap) (n0 : Nat) (Z0 : n0 ≤ h0.size) (Fwi : Fld Z h0 a1 c_0 "width" "I" (.int (2 : Int32))) (Fwo : Fld Z h0 a1 c_0 "words" "[J" (.ref bw)) (Vw : Arv Z h0 bw kw .long (32 : Int32) ((.long w0) :: (.long w1) :: (.long w2) :: (.long w3) :: own_zl 28) (.long (0 : Int64))) :
    MetFree l y_6 (head1 (Jvm.Cond.code y_6 prog_63_method_7_code 3 (some .long) :: ws) ({ frames := 0, cells := 0, slots := 0, locals := 0 } : Room)) (fun a U => a = #[(.ref a1), (.int (1 : Int32)), (.int (0 : Int32))] ∧ Z.Warmed39 U.vm ∧ U.heap = h0) (fun _ _ _ _ _ => True) (fun _ U o U' => ∃ v L, o = .returned v ∧ Q8_1_0 Z a1 bw kw w0 w1 w2 w3 h0 n0 v U'.heap L ∧ FrameEnd U o U' L ({ frames := 0, cells := 0, slots := 0, locals := 0 } : Room).cells ({ frames := 0, cells := 0, slots := 0, locals := 0 } : Room).slots) := by
  refine MetFree.of_bodySF (plainFor_of_name pn_8_1_0) hisR ?_
  intro p e s m args below meth c s₁ Bd hml0 hP hK
  obtain ⟨rfl, hZ, hh⟩ := hP
  have hx := Bd.exec
  have hby := Bd.bytes
  have hml : c.maxLocals = 3 := hml0
  have hown : s.vm.findClass "com/example/grammar_game_solver/grammargamesolver/summary/NumberedSets" = some m.cls := findClass_of_methodNamed Bd.named
  have hnm := (name_of_methodNamed Bd.named Bd.method).1
  have X0 : Stand p l e ({ frames := 0, cells := 0, slots := 0, locals := 0 } : Room) s m #[(.ref a1), (.int (1 : Int32)), (.int (0 : Int32))] below meth c s₁ [] 0 0 := Stand.of_body Bd
  have e0 : s₁.heap = h0 := by rw [← hh, Bd.state]; rfl
  have N0 := Fr.nil n0
  obtain ⟨F0, hF0⟩ : ∃ F : JFrame, F = entryFrame m #[(.ref a1), (.int (1 : Int32)), (.int (0 : Int32))] 3 := ⟨_, rfl⟩
  have pre0 : ∀ t, Steps p.tables e below (s₁.setTop F0) t → Steps p.tables e below (s₁.setTop (entryFrame m #[(.ref a1), (.int (1 : Int32)), (.int (0 : Int32))] 3)) t := fun t k => hF0 ▸ k
  have go0 : Go p e below s₁ F0 s₁ (mkF m 0 #[vr a1, vi (1 : Int32), vi (0 : Int32)] []) := fun t k => castTop (hF0.trans (ef_8_1_0 m a1)) k
  have go1 : Go p e below s₁ F0 s₁ (mkF m 1 #[vr a1, vi (1 : Int32), vi (0 : Int32)] [(.ref a1)]) := by
    intro t_ k_
    refine go0 t_ ?_
    refine o_aloadN X0 hx (hb hby d8_0) rfl rfl ?_
    exact k_
  obtain ⟨T2, X2, e2, st2⟩ := getF X0 hx hZ hown (host := "") (Or.inl (own_w hw 12 rfl)) Via.refl e0 Fwo (g := (mkF m 1 #[vr a1, vi (1 : Int32), vi (0 : Int32)] [(.ref a1)])) rfl rfl (hb hby d8_1)
  have go3 : Go p e below s₁ F0 T2 (mkF m 4 #[vr a1, vi (1 : Int32), vi (0 : Int32)] [(.ref bw)]) := fun t_ k_ => go1 t_ (st2 t_ k_)
  have go4 : Go p e below s₁ F0 T2 (mkF m 6 #[vr a1, vi (1 : Int32), vi (0 : Int32)] [(.ref a1), (.int (1 : Int32)), (.ref bw)]) := by
    intro t_ k_
    refine go3 t_ ?_
    refine o_iloadN X2 hx (hb hby d8_4) rfl ?_
    refine o_aloadN X2 hx (hb hby d8_5) rfl rfl ?_
    exact k_
  obtain ⟨T5, X5, e5, st5⟩ := getF X2 hx hZ hown (host := "") (Or.inl (own_w hw 10 rfl)) Via.refl e2 Fwi (g := (mkF m 6 #[vr a1, vi (1 : Int32), vi (0 : Int32)] [(.ref a1), (.int (1 : Int32)), (.ref bw)])) rfl rfl (hb hby d8_6)
  have go6 : Go p e below s₁ F0 T5 (mkF m 9 #[vr a1, vi (1 : Int32), vi (0 : Int32)] [(.int (2 : Int32)), (.int (1 : Int32)), (.ref bw)]) := fun t_ k_ => go4 t_ (st5 t_ k_)
  have go7 : Go p e below s₁ F0 T5 (mkF m 12 #[vr a1, vi (1 : Int32), vi (0 : Int32)] [(.int (2 : Int32)), (.ref bw)]) := by
    intro t_ k_
    refine go6 t_ ?_
    refine o_imulE X5 hx (hb hby d8_9) (v := 2) rfl ?_
    refine o_iloadN X5 hx (hb hby d8_10) rfl ?_
    refine o_iaddE X5 hx (hb hby d8_11) (v := 2) rfl ?_
    exact k_
  obtain ⟨cl8, Ar8, -, Sz8, Nn8, Hs8, -⟩ := id Vw
  have hin8 : ¬ ((2 : Int32) < 0 ∨ cl8.slots.size ≤ ((2 : Int32)).toNatClampNeg) := inb_of Sz8 ⟨by decide, by decide⟩
  have hat8 : cl8.slots[((2 : Int32)).toNatClampNeg]? = some (.long w2) := Hs8.at hin8 rfl
  have go9 : Go p e below s₁ F0 T5 (mkF m 13 #[vr a1, vi (1 : Int32), vi (0 : Int32)] [(.long w2)]) := by
    intro t_ k_
    refine go7 t_ ?_
    refine o_laload X5 hx hZ e5 Ar8 hin8 hat8 (hb hby d8_12) ?_
    exact k_
  obtain ⟨fs, hr, hrun, hended, hW, hsame⟩ := X5.leave (v := some (.long w2)) (fun h => by rw [Bd.returns] at h; cases h)
  refine ⟨_, _, pre0 _ (go9 _ ?_), hrun, hended, _, _, rfl, ?_, ⟨_, rfl⟩, hW, hsame.mono (by decide) (by decide)⟩
  · skip
    exact retOut X5 hx Bd.returns rfl (Or.inr (Or.inl ⟨rfl, rfl, _, rfl⟩)) (hb hby d8_13) hr
  · show Q8_1_0 Z a1 bw kw w0 w1 w2 w3 h0 n0 _ T5.heap _
    rw [e5]
    exact ⟨rfl, N0, rfl⟩

theorem pn_8_1_1 : plainName "com/example/grammar_game_solver/grammargamesolver/summary/NumberedSets" = true := by first | (simp [plainName, overriddenIn]; done) | decide +kernel
theorem ef_8_1_1 (m : MethodId) (x0 : Addr) : entryFrame m #[(.ref x0), (.int (1 : Int32)), (.int (1 : Int32))] 3 = mkF m 0 #[vr x0, vi (1 : Int32), vi (1 : Int32)] [] := by first | (simp [entryFrame, mkF, argsToLocals, Value.category]; done) | rfl
def Q8_1_1 (Z : State) (a1 : Addr) (bw : Addr) (kw : ClassId) (w0 : Int64) (w1 : Int64) (w2 : Int64) (w3 : Int64) (h0 : Heap) (n0 : Nat) (v : Option Value) (h : Heap) (L : List Loc) : Prop := v = some (.long w3) ∧ Fr n0 L ∧ h = h0
set_option maxRecDepth 65536 in
set_option maxHeartbeats 40000000 in
theorem rm8_1_1 (l : Launch) (Z : State) (a0 : Array Value) (hw : ∀ d ∈ tables_1, d.before a0 Z = true) (ws : List Jvm.Cond) (a1 : Addr) (bw : Addr) (kw : ClassId) (w0 : Int64) (w1 : Int64) (w2 : Int64) (w3 : Int64) (h0 : Heap) (n0 : Nat) (Z0 : n0 ≤ h0.size) (Fwi : Fld Z h0 a1 c_0 "width" "I" (.int (2 : Int32))) (Fwo : Fld Z h0 a1 c_0 "words" "[J" (.ref bw)) (Vw : Arv Z h0 bw kw .long (32 : Int32) ((.long w0) :: (.long w1) :: (.long w2) :: (.long w3) :: own_zl 28) (.long (0 : Int64))) :
    MetFree l y_6 (head1 (Jvm.Cond.code y_6 prog_63_method_7_code 3 (some .long) :: ws) ({ frames := 0, cells := 0, slots := 0, locals := 0 } : Room)) (fun a U => a = #[(.ref a1), (.int (1 : Int32)), (.int (1 : Int32))] ∧ Z.Warmed39 U.vm ∧ U.heap = h0) (fun _ _ _ _ _ => True) (fun _ U o U' => ∃ v L, o = .returned v ∧ Q8_1_1 Z a1 bw kw w0 w1 w2 w3 h0 n0 v U'.heap L ∧ FrameEnd U o U' L ({ frames := 0, cells := 0, slots := 0, locals := 0 } : Room).cells ({ frames := 0, cells := 0, slots := 0, locals := 0 } : Room).slots) := by
  refine MetFree.of_bodySF (plainFor_of_name pn_8_1_1) hisR ?_
  intro p e s m args below meth c s₁ Bd hml0 hP hK
  obtain ⟨rfl, hZ, hh⟩ := hP
  have hx := Bd.exec
  have hby := Bd.bytes
  have hml : c.maxLocals = 3 := hml0
  have hown : s.vm.findClass "com/example/grammar_game_solver/grammargamesolver/summary/NumberedSets" = some m.cls := findClass_of_methodNamed Bd.named
  have hnm := (name_of_methodNamed Bd.named Bd.method).1
  have X0 : Stand p l e ({ frames := 0, cells := 0, slots := 0, locals := 0 } : Room) s m #[(.ref a1), (.int (1 : Int32)), (.int (1 : Int32))] below meth c s₁ [] 0 0 := Stand.of_body Bd
  have e0 : s₁.heap = h0 := by rw [← hh, Bd.state]; rfl
  have N0 := Fr.nil n0
  obtain ⟨F0, hF0⟩ : ∃ F : JFrame, F = entryFrame m #[(.ref a1), (.int (1 : Int32)), (.int (1 : Int32))] 3 := ⟨_, rfl⟩
  have pre0 : ∀ t, Steps p.tables e below (s₁.setTop F0) t → Steps p.tables e below (s₁.setTop (entryFrame m #[(.ref a1), (.int (1 : Int32)), (.int (1 : Int32))] 3)) t := fun t k => hF0 ▸ k
  have go0 : Go p e below s₁ F0 s₁ (mkF m 0 #[vr a1, vi (1 : Int32), vi (1 : Int32)] []) := fun t k => castTop (hF0.trans (ef_8_1_1 m a1)) k
  have go1 : Go p e below s₁ F0 s₁ (mkF m 1 #[vr a1, vi (1 : Int32), vi (1 : Int32)] [(.ref a1)]) := by
    intro t_ k_
    refine go0 t_ ?_
    refine o_aloadN X0 hx (hb hby d8_0) rfl rfl ?_
    exact k_
  obtain ⟨T2, X2, e2, st2⟩ := getF X0 hx hZ hown (host := "") (Or.inl (own_w hw 12 rfl)) Via.refl e0 Fwo (g := (mkF m 1 #[vr a1, vi (1 : Int32), vi (1 : Int32)] [(.ref a1)])) rfl rfl (hb hby d8_1)
  have go3 : Go p e below s₁ F0 T2 (mkF m 4 #[vr a1, vi (1 : Int32), vi (1 : Int32)] [(.ref bw)]) := fun t_ k_ => go1 t_ (st2 t_ k_)
  have go4 : Go p e below s₁ F0 T2 (mkF m 6 #[vr a1, vi (1 : Int32), vi (1 : Int32)] [(.ref a1), (.int (1 : Int32)), (.ref bw)]) := by
    intro t_ k_
    refine go3 t_ ?_
    refine o_iloadN X2 hx (hb hby d8_4) rfl ?_
    refine o_aloadN X2 hx (hb hby d8_5) rfl rfl ?_
    exact k_
  obtain ⟨T5, X5, e5, st5⟩ := getF X2 hx hZ hown (host := "") (Or.inl (own_w hw 10 rfl)) Via.refl e2 Fwi (g := (mkF m 6 #[vr a1, vi (1 : Int32), vi (1 : Int32)] [(.ref a1), (.int (1 : Int32)), (.ref bw)])) rfl rfl (hb hby d8_6)
  have go6 : Go p e below s₁ F0 T5 (mkF m 9 #[vr a1, vi (1 : Int32), vi (1 : Int32)] [(.int (2 : Int32)), (.int (1 : Int32)), (.ref bw)]) := fun t_ k_ => go4 t_ (st5 t_ k_)
  have go7 : Go p e below s₁ F0 T5 (mkF m 12 #[vr a1, vi (1 : Int32), vi (1 : Int32)] [(.int (3 : Int32)), (.ref bw)]) := by
    intro t_ k_
    refine go6 t_ ?_
    refine o_imulE X5 hx (hb hby d8_9) (v := 2) rfl ?_
    refine o_iloadN X5 hx (hb hby d8_10) rfl ?_
    refine o_iaddE X5 hx (hb hby d8_11) (v := 3) rfl ?_
    exact k_
  obtain ⟨cl8, Ar8, -, Sz8, Nn8, Hs8, -⟩ := id Vw
  have hin8 : ¬ ((3 : Int32) < 0 ∨ cl8.slots.size ≤ ((3 : Int32)).toNatClampNeg) := inb_of Sz8 ⟨by decide, by decide⟩
  have hat8 : cl8.slots[((3 : Int32)).toNatClampNeg]? = some (.long w3) := Hs8.at hin8 rfl
  have go9 : Go p e below s₁ F0 T5 (mkF m 13 #[vr a1, vi (1 : Int32), vi (1 : Int32)] [(.long w3)]) := by
    intro t_ k_
    refine go7 t_ ?_
    refine o_laload X5 hx hZ e5 Ar8 hin8 hat8 (hb hby d8_12) ?_
    exact k_
  obtain ⟨fs, hr, hrun, hended, hW, hsame⟩ := X5.leave (v := some (.long w3)) (fun h => by rw [Bd.returns] at h; cases h)
  refine ⟨_, _, pre0 _ (go9 _ ?_), hrun, hended, _, _, rfl, ?_, ⟨_, rfl⟩, hW, hsame.mono (by decide) (by decide)⟩
  · skip
    exact retOut X5 hx Bd.returns rfl (Or.inr (Or.inl ⟨rfl, rfl, _, rfl⟩)) (hb hby d8_13) hr
  · show Q8_1_1 Z a1 bw kw w0 w1 w2 w3 h0 n0 _ T5.heap _
    rw [e5]
    exact ⟨rfl, N0, rfl⟩

theorem pn_0 : plainName "com/example/grammar_game_solver/grammargamesolver/summary/NumberedSetsWordPinLaw" = true := by first | (simp [plainName, overriddenIn]; done) | decide +kernel
theorem pd0_0 : parseMethodDescriptor "(I)V" = some ⟨[.int], none⟩ := by decide +kernel
theorem pd0_1 : parseMethodDescriptor "([J)I" = some ⟨[(.array .long)], some .int⟩ := by decide +kernel
theorem pd0_2 : parseMethodDescriptor "(II)J" = some ⟨[.int, .int], some .long⟩ := by decide +kernel
theorem ef_0 (m : MethodId) (x0 : Int64) (x1 : Int64) (x2 : Int64) (x3 : Int64) (x4 : Int32) : entryFrame m #[(.long x0), (.long x1), (.long x2), (.long x3), (.int x4)] maxLocals = mkF m 0 #[vj x0, .second, vj x1, .second, vj x2, .second, vj x3, .second, vi x4, .unset, .unset, .unset, .unset, .unset, .unset, .unset, .unset, .unset, .unset] [] := by first | (simp [entryFrame, mkF, argsToLocals, Value.category, maxLocals]; done) | rfl
def Q0 (Z : State) (q1 : Int64) (q2 : Int64) (q3 : Int64) (q4 : Int64) (p5 : Int32) (h0 : Heap) (n0 : Nat) (v : Option Value) (h : Heap) (L : List Loc) : Prop := v = some (.int (1 : Int32)) ∧ Fr n0 L
set_option maxRecDepth 65536 in
set_option maxHeartbeats 40000000 in
theorem rm0 (l : Launch) (Z : State) (a0 : Array Value) (hw : ∀ d ∈ tables_1, d.before a0 Z = true) (ws : List Jvm.Cond) (q1 : Int64) (q2 : Int64) (q3 : Int64) (q4 : Int64) (p5 : Int32) (h0 : Heap) (n0 : Nat) (Z0 : n0 ≤ h0.size) :
    MetFree l x (head1 (Jvm.Cond.code x code maxLocals ret :: ws) room_1) (fun a U => a = #[(.long q1), (.long q2), (.long q3), (.long q4), (.int p5)] ∧ Z.Warmed39 U.vm ∧ U.heap = h0) (fun _ _ _ _ _ => True) (fun _ U o U' => ∃ v L, o = .returned v ∧ Q0 Z q1 q2 q3 q4 p5 h0 n0 v U'.heap L ∧ FrameEnd U o U' L room_1.cells room_1.slots) := by
  refine MetFree.of_bodySF (plainFor_of_name pn_0) hisR ?_
  intro p e s m args below meth c s₁ Bd hml0 hP hK
  obtain ⟨rfl, hZ, hh⟩ := hP
  have hx := Bd.exec
  have hby := Bd.bytes
  have hml : c.maxLocals = 19 := hml0
  have hown : s.vm.findClass "com/example/grammar_game_solver/grammargamesolver/summary/NumberedSetsWordPinLaw" = some m.cls := findClass_of_methodNamed Bd.named
  have hnm := (name_of_methodNamed Bd.named Bd.method).1
  have X0 : Stand p l e room_1 s m #[(.long q1), (.long q2), (.long q3), (.long q4), (.int p5)] below meth c s₁ [] 0 0 := Stand.of_body Bd
  have e0 : s₁.heap = h0 := by rw [← hh, Bd.state]; rfl
  have N0 := Fr.nil n0
  obtain ⟨F0, hF0⟩ : ∃ F : JFrame, F = entryFrame m #[(.long q1), (.long q2), (.long q3), (.long q4), (.int p5)] maxLocals := ⟨_, rfl⟩
  have pre0 : ∀ t, Steps p.tables e below (s₁.setTop F0) t → Steps p.tables e below (s₁.setTop (entryFrame m #[(.long q1), (.long q2), (.long q3), (.long q4), (.int p5)] maxLocals)) t := fun t k => hF0 ▸ k
  have go0 : Go p e below s₁ F0 s₁ (mkF m 0 #[vj q1, .second, vj q2, .second, vj q3, .second, vj q4, .second, vi p5, .unset, .unset, .unset, .unset, .unset, .unset, .unset, .unset, .unset, .unset] []) := fun t k => castTop (hF0.trans (ef_0 m q1 q2 q3 q4 p5)) k
  have go1 : Go p e below s₁ F0 s₁ (mkF m 4 #[vj q1, .second, vj q2, .second, vj q3, .second, vj q4, .second, vi p5, .unset, .unset, .unset, .unset, .unset, .unset, .unset, .unset, .unset, .unset] [(.int (p5 &&& (1 : Int32)))]) := by
    intro t_ k_
    refine go0 t_ ?_
    refine o_iload X0 hx (hb hby at_0) rfl ?_
    refine o_iconst X0 hx (hb hby at_2) (v := 1) rfl ?_
    refine o_iand X0 hx (hb hby at_3) ?_
    exact k_
  have go3 : Go p e below s₁ F0 s₁ (mkF m 13 #[vj q1, .second, vj q2, .second, vj q3, .second, vj q4, .second, vi p5, .unset, .unset, .unset, .unset, .unset, .unset, .unset, .unset, .unset, .unset] [(.long (if (p5 &&& (1 : Int32)) = (0 : Int32) then q3 else q1))]) := by
    intro t_ k_
    refine go1 t_ ?_
    by_cases hm4_2 : (p5 &&& (1 : Int32)) = (0 : Int32)
    · simp only [if_pos hm4_2] at k_
      refine o_ifYes X0 hx (hb hby at_4) (pc' := 11) rfl (by decide) ((if0 _ _).trans (teq hm4_2).1) ?_
      refine o_lload X0 hx (hb hby at_11) rfl ?_
      exact k_
    · simp only [if_neg hm4_2] at k_
      refine o_ifNo X0 hx (hb hby at_4) ((if0 _ _).trans (feq hm4_2).1) ?_
      refine o_lloadN X0 hx (hb hby at_7) rfl ?_
      refine o_goto X0 hx (hb hby at_8) (pc' := 13) rfl (by decide) ?_
      exact k_
  have go4 : Go p e below s₁ F0 s₁ (mkF m 15 #[vj q1, .second, vj q2, .second, vj q3, .second, vj q4, .second, vi p5, vj (if (p5 &&& (1 : Int32)) = (0 : Int32) then q3 else q1), .second, .unset, .unset, .unset, .unset, .unset, .unset, .unset, .unset] []) := by
    intro t_ k_
    refine go3 t_ ?_
    refine o_lstore X0 hx (hb hby at_13) (L' := #[vj q1, .second, vj q2, .second, vj q3, .second, vj q4, .second, vi p5, vj (if (p5 &&& (1 : Int32)) = (0 : Int32) then q3 else q1), .second, .unset, .unset, .unset, .unset, .unset, .unset, .unset, .unset]) rfl ?_
    exact k_
  obtain ⟨b0, h_b0⟩ : ∃ z : Int64, z = (if (p5 &&& (1 : Int32)) = (0 : Int32) then q3 else q1) := ⟨_, rfl⟩
  have go5 : Go p e below s₁ F0 s₁ (mkF m 15 #[vj q1, .second, vj q2, .second, vj q3, .second, vj q4, .second, vi p5, vj b0, .second, .unset, .unset, .unset, .unset, .unset, .unset, .unset, .unset] []) := by rw [h_b0]; exact go4
  have go6 : Go p e below s₁ F0 s₁ (mkF m 19 #[vj q1, .second, vj q2, .second, vj q3, .second, vj q4, .second, vi p5, vj b0, .second, .unset, .unset, .unset, .unset, .unset, .unset, .unset, .unset] [(.int (p5 &&& (2 : Int32)))]) := by
    intro t_ k_
    refine go5 t_ ?_
    refine o_iload X0 hx (hb hby at_15) rfl ?_
    refine o_iconst X0 hx (hb hby at_17) (v := 2) rfl ?_
    refine o_iand X0 hx (hb hby at_18) ?_
    exact k_
  have go8 : Go p e below s₁ F0 s₁ (mkF m 28 #[vj q1, .second, vj q2, .second, vj q3, .second, vj q4, .second, vi p5, vj b0, .second, .unset, .unset, .unset, .unset, .unset, .unset, .unset, .unset] [(.long (if (p5 &&& (2 : Int32)) = (0 : Int32) then q4 else q2))]) := by
    intro t_ k_
    refine go6 t_ ?_
    by_cases hm19_7 : (p5 &&& (2 : Int32)) = (0 : Int32)
    · simp only [if_pos hm19_7] at k_
      refine o_ifYes X0 hx (hb hby at_19) (pc' := 26) rfl (by decide) ((if0 _ _).trans (teq hm19_7).1) ?_
      refine o_lload X0 hx (hb hby at_26) rfl ?_
      exact k_
    · simp only [if_neg hm19_7] at k_
      refine o_ifNo X0 hx (hb hby at_19) ((if0 _ _).trans (feq hm19_7).1) ?_
      refine o_lloadN X0 hx (hb hby at_22) rfl ?_
      refine o_goto X0 hx (hb hby at_23) (pc' := 28) rfl (by decide) ?_
      exact k_
  have go9 : Go p e below s₁ F0 s₁ (mkF m 30 #[vj q1, .second, vj q2, .second, vj q3, .second, vj q4, .second, vi p5, vj b0, .second, vj (if (p5 &&& (2 : Int32)) = (0 : Int32) then q4 else q2), .second, .unset, .unset, .unset, .unset, .unset, .unset] []) := by
    intro t_ k_
    refine go8 t_ ?_
    refine o_lstore X0 hx (hb hby at_28) (L' := #[vj q1, .second, vj q2, .second, vj q3, .second, vj q4, .second, vi p5, vj b0, .second, vj (if (p5 &&& (2 : Int32)) = (0 : Int32) then q4 else q2), .second, .unset, .unset, .unset, .unset, .unset, .unset]) rfl ?_
    exact k_
  obtain ⟨b1, h_b1⟩ : ∃ z : Int64, z = (if (p5 &&& (2 : Int32)) = (0 : Int32) then q4 else q2) := ⟨_, rfl⟩
  have go10 : Go p e below s₁ F0 s₁ (mkF m 30 #[vj q1, .second, vj q2, .second, vj q3, .second, vj q4, .second, vi p5, vj b0, .second, vj b1, .second, .unset, .unset, .unset, .unset, .unset, .unset] []) := by rw [h_b1]; exact go9
  have go11 : Go p e below s₁ F0 s₁ (mkF m 31 #[vj q1, .second, vj q2, .second, vj q3, .second, vj q4, .second, vi p5, vj b0, .second, vj b1, .second, .unset, .unset, .unset, .unset, .unset, .unset] [(.int (2 : Int32))]) := by
    intro t_ k_
    refine go10 t_ ?_
    refine o_iconst X0 hx (hb hby at_30) (v := 2) rfl ?_
    exact k_
  obtain ⟨T12, h12, k12, X12, e12, E12, A12, st12⟩ := newP X0 hx hZ (own_w hw 0 rfl) e0 (g := (mkF m 31 #[vj q1, .second, vj q2, .second, vj q3, .second, vj q4, .second, vi p5, vj b0, .second, vj b1, .second, .unset, .unset, .unset, .unset, .unset, .unset] [(.int (2 : Int32))])) rfl (hb hby at_31) rfl (by decide) (cap := 2) (by decide) (by decide) (by decide) (by decide)
  obtain ⟨b12, gz12⟩ : ∃ z, z = h0.size := ⟨_, rfl⟩
  rw [← gz12] at A12 st12
  have g_b12 : n0 ≤ b12 := Nat.le_trans Z0 (Nat.le_of_eq gz12.symm)
  have Z13 : n0 ≤ h12.size := Nat.le_trans Z0 E12.1
  have V12 : Arv Z h12 b12 k12 .long (2 : Int32) [(.long (0 : Int64)), (.long (0 : Int64))] (.long (0 : Int64)) := (Arv.new A12 (by decide)).pad (pad_rep [] (.long (0 : Int64)) 2)
  have go14 : Go p e below s₁ F0 T12 (mkF m 33 #[vj q1, .second, vj q2, .second, vj q3, .second, vj q4, .second, vi p5, vj b0, .second, vj b1, .second, .unset, .unset, .unset, .unset, .unset, .unset] [(.ref b12)]) := fun t_ k_ => go11 t_ (st12 t_ k_)
  have go15 : Go p e below s₁ F0 T12 (mkF m 36 #[vj q1, .second, vj q2, .second, vj q3, .second, vj q4, .second, vi p5, vj b0, .second, vj b1, .second, .unset, .unset, .unset, .unset, .unset, .unset] [(.long q1), (.int (0 : Int32)), (.ref b12), (.ref b12)]) := by
    intro t_ k_
    refine go14 t_ ?_
    refine o_dup X12 hx (hb hby at_33) rfl ?_
    refine o_iconst X12 hx (hb hby at_34) (v := 0) rfl ?_
    refine o_lloadN X12 hx (hb hby at_35) rfl ?_
    exact k_
  obtain ⟨cl16, Ar16, q16, Sz16, Nn16, Hs16, G16⟩ := id V12
  have hin16 : ¬ ((0 : Int32) < 0 ∨ cl16.slots.size ≤ ((0 : Int32)).toNatClampNeg) := inb_of Sz16 ⟨by decide, by decide⟩
  obtain ⟨T16, h16, X16, e16, W16, st16⟩ := stJ X12 hx hZ e12 Ar16 (j := (0 : Int32)) hin16 (g := (mkF m 36 #[vj q1, .second, vj q2, .second, vj q3, .second, vj q4, .second, vi p5, vj b0, .second, vj b1, .second, .unset, .unset, .unset, .unset, .unset, .unset] [(.long q1), (.int (0 : Int32)), (.ref b12), (.ref b12)])) rfl rfl (hb hby at_36)
  have V16 : Arv Z h16 b12 k12 .long (2 : Int32) [(.long q1), (.long (0 : Int64))] (.long (0 : Int64)) := Arv.set Ar16 q16 Sz16 Nn16 Hs16 G16 rfl W16 0 rfl (Nat.le_of_ble_eq_true rfl)
  have Z17 : n0 ≤ h16.size := Nat.le_trans Z13 (Keep.of_wr W16).1
  have N16 := Fr.snoc X16 N0 g_b12
  have go18 : Go p e below s₁ F0 T16 (mkF m 37 #[vj q1, .second, vj q2, .second, vj q3, .second, vj q4, .second, vi p5, vj b0, .second, vj b1, .second, .unset, .unset, .unset, .unset, .unset, .unset] [(.ref b12)]) := fun t_ k_ => go15 t_ (st16 t_ k_)
  have go19 : Go p e below s₁ F0 T16 (mkF m 40 #[vj q1, .second, vj q2, .second, vj q3, .second, vj q4, .second, vi p5, vj b0, .second, vj b1, .second, .unset, .unset, .unset, .unset, .unset, .unset] [(.long q2), (.int (1 : Int32)), (.ref b12), (.ref b12)]) := by
    intro t_ k_
    refine go18 t_ ?_
    refine o_dup X16 hx (hb hby at_37) rfl ?_
    refine o_iconst X16 hx (hb hby at_38) (v := 1) rfl ?_
    refine o_lloadN X16 hx (hb hby at_39) rfl ?_
    exact k_
  obtain ⟨cl20, Ar20, q20, Sz20, Nn20, Hs20, G20⟩ := id V16
  have hin20 : ¬ ((1 : Int32) < 0 ∨ cl20.slots.size ≤ ((1 : Int32)).toNatClampNeg) := inb_of Sz20 ⟨by decide, by decide⟩
  obtain ⟨T20, h20, X20, e20, W20, st20⟩ := stJ X16 hx hZ e16 Ar20 (j := (1 : Int32)) hin20 (g := (mkF m 40 #[vj q1, .second, vj q2, .second, vj q3, .second, vj q4, .second, vi p5, vj b0, .second, vj b1, .second, .unset, .unset, .unset, .unset, .unset, .unset] [(.long q2), (.int (1 : Int32)), (.ref b12), (.ref b12)])) rfl rfl (hb hby at_40)
  have V20 : Arv Z h20 b12 k12 .long (2 : Int32) [(.long q1), (.long q2)] (.long (0 : Int64)) := Arv.set Ar20 q20 Sz20 Nn20 Hs20 G20 rfl W20 1 rfl (Nat.le_of_ble_eq_true rfl)
  have Z21 : n0 ≤ h20.size := Nat.le_trans Z17 (Keep.of_wr W20).1
  have N20 := Fr.snoc X20 N16 g_b12
  have go22 : Go p e below s₁ F0 T20 (mkF m 41 #[vj q1, .second, vj q2, .second, vj q3, .second, vj q4, .second, vi p5, vj b0, .second, vj b1, .second, .unset, .unset, .unset, .unset, .unset, .unset] [(.ref b12)]) := fun t_ k_ => go19 t_ (st20 t_ k_)
  have go23 : Go p e below s₁ F0 T20 (mkF m 44 #[vj q1, .second, vj q2, .second, vj q3, .second, vj q4, .second, vi p5, vj b0, .second, vj b1, .second, vr b12, .unset, .unset, .unset, .unset, .unset] [(.int (2 : Int32))]) := by
    intro t_ k_
    refine go22 t_ ?_
    refine o_astore X20 hx (hb hby at_41) rfl (L' := #[vj q1, .second, vj q2, .second, vj q3, .second, vj q4, .second, vi p5, vj b0, .second, vj b1, .second, vr b12, .unset, .unset, .unset, .unset, .unset]) rfl ?_
    refine o_iconst X20 hx (hb hby at_43) (v := 2) rfl ?_
    exact k_
  obtain ⟨T24, h24, k24, X24, e24, E24, A24, st24⟩ := newP X20 hx hZ (own_w hw 0 rfl) e20 (g := (mkF m 44 #[vj q1, .second, vj q2, .second, vj q3, .second, vj q4, .second, vi p5, vj b0, .second, vj b1, .second, vr b12, .unset, .unset, .unset, .unset, .unset] [(.int (2 : Int32))])) rfl (hb hby at_44) rfl (by decide) (cap := 2) (by decide) (by decide) (by decide) (by decide)
  obtain ⟨b24, gz24⟩ : ∃ z, z = h20.size := ⟨_, rfl⟩
  rw [← gz24] at A24 st24
  have ne25 : b12 ≠ b24 := Nat.ne_of_lt (Nat.lt_of_lt_of_le V20.lt (Nat.le_of_eq gz24.symm))
  have g_b24 : n0 ≤ b24 := Nat.le_trans Z21 (Nat.le_of_eq gz24.symm)
  have Z26 : n0 ≤ h24.size := Nat.le_trans Z21 E24.1
  have V24 : Arv Z h24 b24 k24 .long (2 : Int32) [(.long (0 : Int64)), (.long (0 : Int64))] (.long (0 : Int64)) := (Arv.new A24 (by decide)).pad (pad_rep [] (.long (0 : Int64)) 2)
  have go27 : Go p e below s₁ F0 T24 (mkF m 46 #[vj q1, .second, vj q2, .second, vj q3, .second, vj q4, .second, vi p5, vj b0, .second, vj b1, .second, vr b12, .unset, .unset, .unset, .unset, .unset] [(.ref b24)]) := fun t_ k_ => go23 t_ (st24 t_ k_)
  have go28 : Go p e below s₁ F0 T24 (mkF m 50 #[vj q1, .second, vj q2, .second, vj q3, .second, vj q4, .second, vi p5, vj b0, .second, vj b1, .second, vr b12, .unset, .unset, .unset, .unset, .unset] [(.long b0), (.int (0 : Int32)), (.ref b24), (.ref b24)]) := by
    intro t_ k_
    refine go27 t_ ?_
    refine o_dup X24 hx (hb hby at_46) rfl ?_
    refine o_iconst X24 hx (hb hby at_47) (v := 0) rfl ?_
    refine o_lload X24 hx (hb hby at_48) rfl ?_
    exact k_
  obtain ⟨cl29, Ar29, q29, Sz29, Nn29, Hs29, G29⟩ := id V24
  have hin29 : ¬ ((0 : Int32) < 0 ∨ cl29.slots.size ≤ ((0 : Int32)).toNatClampNeg) := inb_of Sz29 ⟨by decide, by decide⟩
  obtain ⟨T29, h29, X29, e29, W29, st29⟩ := stJ X24 hx hZ e24 Ar29 (j := (0 : Int32)) hin29 (g := (mkF m 50 #[vj q1, .second, vj q2, .second, vj q3, .second, vj q4, .second, vi p5, vj b0, .second, vj b1, .second, vr b12, .unset, .unset, .unset, .unset, .unset] [(.long b0), (.int (0 : Int32)), (.ref b24), (.ref b24)])) rfl rfl (hb hby at_50)
  have V29 : Arv Z h29 b24 k24 .long (2 : Int32) [(.long b0), (.long (0 : Int64))] (.long (0 : Int64)) := Arv.set Ar29 q29 Sz29 Nn29 Hs29 G29 rfl W29 0 rfl (Nat.le_of_ble_eq_true rfl)
  have Z30 : n0 ≤ h29.size := Nat.le_trans Z26 (Keep.of_wr W29).1
  have N29 := Fr.snoc X29 N20 g_b24
  have go31 : Go p e below s₁ F0 T29 (mkF m 51 #[vj q1, .second, vj q2, .second, vj q3, .second, vj q4, .second, vi p5, vj b0, .second, vj b1, .second, vr b12, .unset, .unset, .unset, .unset, .unset] [(.ref b24)]) := fun t_ k_ => go28 t_ (st29 t_ k_)
  have go32 : Go p e below s₁ F0 T29 (mkF m 55 #[vj q1, .second, vj q2, .second, vj q3, .second, vj q4, .second, vi p5, vj b0, .second, vj b1, .second, vr b12, .unset, .unset, .unset, .unset, .unset] [(.long b1), (.int (1 : Int32)), (.ref b24), (.ref b24)]) := by
    intro t_ k_
    refine go31 t_ ?_
    refine o_dup X29 hx (hb hby at_51) rfl ?_
    refine o_iconst X29 hx (hb hby at_52) (v := 1) rfl ?_
    refine o_lload X29 hx (hb hby at_53) rfl ?_
    exact k_
  obtain ⟨cl33, Ar33, q33, Sz33, Nn33, Hs33, G33⟩ := id V29
  have hin33 : ¬ ((1 : Int32) < 0 ∨ cl33.slots.size ≤ ((1 : Int32)).toNatClampNeg) := inb_of Sz33 ⟨by decide, by decide⟩
  obtain ⟨T33, h33, X33, e33, W33, st33⟩ := stJ X29 hx hZ e29 Ar33 (j := (1 : Int32)) hin33 (g := (mkF m 55 #[vj q1, .second, vj q2, .second, vj q3, .second, vj q4, .second, vi p5, vj b0, .second, vj b1, .second, vr b12, .unset, .unset, .unset, .unset, .unset] [(.long b1), (.int (1 : Int32)), (.ref b24), (.ref b24)])) rfl rfl (hb hby at_55)
  have V33 : Arv Z h33 b24 k24 .long (2 : Int32) [(.long b0), (.long b1)] (.long (0 : Int64)) := Arv.set Ar33 q33 Sz33 Nn33 Hs33 G33 rfl W33 1 rfl (Nat.le_of_ble_eq_true rfl)
  have Z34 : n0 ≤ h33.size := Nat.le_trans Z30 (Keep.of_wr W33).1
  have N33 := Fr.snoc X33 N29 g_b24
  have go35 : Go p e below s₁ F0 T33 (mkF m 56 #[vj q1, .second, vj q2, .second, vj q3, .second, vj q4, .second, vi p5, vj b0, .second, vj b1, .second, vr b12, .unset, .unset, .unset, .unset, .unset] [(.ref b24)]) := fun t_ k_ => go32 t_ (st33 t_ k_)
  have go36 : Go p e below s₁ F0 T33 (mkF m 58 #[vj q1, .second, vj q2, .second, vj q3, .second, vj q4, .second, vi p5, vj b0, .second, vj b1, .second, vr b12, vr b24, .unset, .unset, .unset, .unset] []) := by
    intro t_ k_
    refine go35 t_ ?_
    refine o_astore X33 hx (hb hby at_56) rfl (L' := #[vj q1, .second, vj q2, .second, vj q3, .second, vj q4, .second, vi p5, vj b0, .second, vj b1, .second, vr b12, vr b24, .unset, .unset, .unset, .unset]) rfl ?_
    exact k_
  obtain ⟨T37, h37, X37, e37, E37, A37, D37, -, st37⟩ := newO X33 hx hZ hown (own_w hw 1 rfl) (own_w hw 2 rfl) (own_w hw 3 rfl) e33 (g := (mkF m 58 #[vj q1, .second, vj q2, .second, vj q3, .second, vj q4, .second, vi p5, vj b0, .second, vj b1, .second, vr b12, vr b24, .unset, .unset, .unset, .unset] [])) rfl (hb hby at_58) (by decide) (by decide)
  obtain ⟨b37, gz37⟩ : ∃ z, z = h33.size := ⟨_, rfl⟩
  rw [← gz37] at A37 D37 st37
  have F38 : Arv Z h33 b12 k12 .long (2 : Int32) [(.long q1), (.long q2)] (.long (0 : Int64)) := (((V20.ext E24).other W29 ne25).other W33 ne25)
  have ne39 : b12 ≠ b37 := Nat.ne_of_lt (Nat.lt_of_lt_of_le F38.lt (Nat.le_of_eq gz37.symm))
  have ne40 : b24 ≠ b37 := Nat.ne_of_lt (Nat.lt_of_lt_of_le V33.lt (Nat.le_of_eq gz37.symm))
  have g_b37 : n0 ≤ b37 := Nat.le_trans Z34 (Nat.le_of_eq gz37.symm)
  have Z41 : n0 ≤ h37.size := Nat.le_trans Z34 E37.1
  have F42 : Fld Z h37 b37 c_0 "width" "I" (.int (0 : Int32)) := D37 (Or.inr (own_w hw 11 rfl)) (ty := .int) (by decide)
  have F43 : Fld Z h37 b37 c_0 "words" "[J" .null := D37 (Or.inl (own_w hw 13 rfl)) (ty := (.array .long)) (by decide)
  have F44 : Fld Z h37 b37 c_0 "hashes" "[I" .null := D37 (Or.inl (own_w hw 16 rfl)) (ty := (.array .int)) (by decide)
  have F45 : Fld Z h37 b37 c_0 "slots" "[I" .null := D37 (Or.inl (own_w hw 18 rfl)) (ty := (.array .int)) (by decide)
  have F46 : Fld Z h37 b37 c_0 "count" "I" (.int (0 : Int32)) := D37 (Or.inl (own_w hw 37 rfl)) (ty := .int) (by decide)
  have go47 : Go p e below s₁ F0 T37 (mkF m 61 #[vj q1, .second, vj q2, .second, vj q3, .second, vj q4, .second, vi p5, vj b0, .second, vj b1, .second, vr b12, vr b24, .unset, .unset, .unset, .unset] [(.ref b37)]) := fun t_ k_ => go36 t_ (st37 t_ k_)
  have go48 : Go p e below s₁ F0 T37 (mkF m 63 #[vj q1, .second, vj q2, .second, vj q3, .second, vj q4, .second, vi p5, vj b0, .second, vj b1, .second, vr b12, vr b24, .unset, .unset, .unset, .unset] [(.int (2 : Int32)), (.ref b37), (.ref b37)]) := by
    intro t_ k_
    refine go47 t_ ?_
    refine o_dup X37 hx (hb hby at_61) rfl ?_
    refine o_iconst X37 hx (hb hby at_62) (v := 2) rfl ?_
    exact k_
  obtain ⟨_, _, ⟨T49, L49, k49, n49⟩, -, X49, ⟨Lc49, hQ49, l49, y49, z49⟩, st49⟩ := X37.specialBack hx (y := y_2) rfl hown (mvT hZ (own_w hw 4 rfl)) (mvT hZ (own_w hw 5 rfl)) (mvT hZ (own_w hw 6 rfl)) (by decide) (backOf (W := 1) (rm1_w2 l Z a0 hw [] b37 h37 n0 Z41 A37 F42 F43 F44 F45 F46 g_b37) hZ (own_w hw 6 rfl) (own_w hw 3 rfl) (by decide) (by decide)) (g := (mkF m 63 #[vj q1, .second, vj q2, .second, vj q3, .second, vj q4, .second, vi p5, vj b0, .second, vj b1, .second, vr b12, vr b24, .unset, .unset, .unset, .unset] [(.int (2 : Int32)), (.ref b37), (.ref b37)])) rfl (by rw [hml]; rfl) (Steps.refl _) (a := b37) (argsL := [(.int (2 : Int32))]) (rest := [(.ref b37)]) (lenOf pd0_0 rfl) rfl (by show 2 * 0 + _ ≤ _; exact Nat.le_of_eq rfl) (hb hby at_63) (fun _ _ => ⟨rfl, e37, (by decide : 3 + 3 ≤ _), (by decide : 9 + 80 ≤ _)⟩)
  dsimp only [Pt.U, Pt.locs, Pt.cells, Pt.slots] at X49 l49 y49 z49 st49 hQ49
  subst l49 y49 z49
  obtain ⟨bw_49, bh_49, bs_49, kw_49, kh_49, ks_49, rfl, Nq49, Kc49, hbw_49, hbh_49, hbs_49, nwh_49, nws_49, nhs_49, Fwi_49, Fwo_49, Fha_49, Fsl_49, Fco_49, Vw_49, Vh_49, Vs_49⟩ := hQ49
  have N49 := Fr.app N33 Nq49
  have F50 : Arv Z h37 b12 k12 .long (2 : Int32) [(.long q1), (.long q2)] (.long (0 : Int64)) := (F38.ext E37)
  have ne51 : b12 ≠ bw_49 := Nat.ne_of_lt (Nat.lt_of_lt_of_le F50.lt hbw_49)
  have F52 : Arv Z h37 b24 k24 .long (2 : Int32) [(.long b0), (.long b1)] (.long (0 : Int64)) := (V33.ext E37)
  have ne53 : b24 ≠ bw_49 := Nat.ne_of_lt (Nat.lt_of_lt_of_le F52.lt hbw_49)
  have ne54 : b37 ≠ bw_49 := Nat.ne_of_lt (Nat.lt_of_lt_of_le A37.lt hbw_49)
  have g_bw_49 : n0 ≤ bw_49 := Nat.le_trans Z41 hbw_49
  have ne55 : b12 ≠ bh_49 := Nat.ne_of_lt (Nat.lt_of_lt_of_le F50.lt hbh_49)
  have ne56 : b24 ≠ bh_49 := Nat.ne_of_lt (Nat.lt_of_lt_of_le F52.lt hbh_49)
  have ne57 : b37 ≠ bh_49 := Nat.ne_of_lt (Nat.lt_of_lt_of_le A37.lt hbh_49)
  have g_bh_49 : n0 ≤ bh_49 := Nat.le_trans Z41 hbh_49
  have ne58 : b12 ≠ bs_49 := Nat.ne_of_lt (Nat.lt_of_lt_of_le F50.lt hbs_49)
  have ne59 : b24 ≠ bs_49 := Nat.ne_of_lt (Nat.lt_of_lt_of_le F52.lt hbs_49)
  have ne60 : b37 ≠ bs_49 := Nat.ne_of_lt (Nat.lt_of_lt_of_le A37.lt hbs_49)
  have g_bs_49 : n0 ≤ bs_49 := Nat.le_trans Z41 hbs_49
  have Z61 : n0 ≤ T49.heap.size := Nat.le_trans Z41 Kc49.1
  have go62 : Go p e below s₁ F0 T49 (mkF m 66 #[vj q1, .second, vj q2, .second, vj q3, .second, vj q4, .second, vi p5, vj b0, .second, vj b1, .second, vr b12, vr b24, .unset, .unset, .unset, .unset] [(.ref b37)]) := fun t_ k_ => go48 t_ (st49.trans k_)
  have F63 : Exa Z T49.heap b37 c_0 := (A37.keep Kc49)
  have F64 : Arv Z T49.heap b12 k12 .long (2 : Int32) [(.long q1), (.long q2)] (.long (0 : Int64)) := (F50.keep Kc49 (ninS ne39 nin0))
  have go65 : Go p e below s₁ F0 T49 (mkF m 72 #[vj q1, .second, vj q2, .second, vj q3, .second, vj q4, .second, vi p5, vj b0, .second, vj b1, .second, vr b12, vr b24, vr b37, .unset, .unset, .unset] [(.ref b12), (.ref b37)]) := by
    intro t_ k_
    refine go62 t_ ?_
    refine o_astore X49 hx (hb hby at_66) rfl (L' := #[vj q1, .second, vj q2, .second, vj q3, .second, vj q4, .second, vi p5, vj b0, .second, vj b1, .second, vr b12, vr b24, vr b37, .unset, .unset, .unset]) rfl ?_
    refine o_aload X49 hx (hb hby at_68) rfl rfl ?_
    refine o_aload X49 hx (hb hby at_70) rfl rfl ?_
    exact k_
  obtain ⟨cq66, kq66, q66a, q66b, q66c⟩ := isOf hZ rfl F63
  obtain ⟨_, _, ⟨T66, L66, k66, n66⟩, -, X66, ⟨Lc66, hQ66, l66, y66, z66⟩, st66⟩ := X49.virtualBack hx (y := y_4) (z := y_4) hown (mvT hZ (own_w hw 19 rfl)) (mvT hZ (own_w hw 20 rfl)) (notFace_of_selects (args := #[]) (mvT hZ (own_w hw 22 rfl))) (mvT hZ (own_w hw 22 rfl)) (mvT hZ (own_w hw 21 rfl)) (by decide) (backOf (W := 0) (rm3_a2 l Z a0 hw [] b37 b12 bw_49 bh_49 bs_49 kw_49 kh_49 ks_49 k12 q1 q2 (T49.heap) n0 Z61 F63 Fwi_49 Fwo_49 Fha_49 Fsl_49 Fco_49 Vw_49 Vh_49 Vs_49 F64 g_b37 g_bw_49 g_bh_49 g_bs_49 ne54 ne57 ne60 ne51 ne55 ne58 (Ne.symm ne39) nwh_49 nws_49 nhs_49) hZ (own_w hw 23 rfl) (own_w hw 3 rfl) (by decide) (by decide)) q66a q66c (g := (mkF m 72 #[vj q1, .second, vj q2, .second, vj q3, .second, vj q4, .second, vi p5, vj b0, .second, vj b1, .second, vr b12, vr b24, vr b37, .unset, .unset, .unset] [(.ref b12), (.ref b37)])) rfl (by rw [hml]; rfl) (Steps.refl _) (argsL := [(.ref b12)]) (rest := []) (lenOf pd0_1 rfl) rfl (by show 2 * 0 + _ ≤ _; exact Nat.le_of_eq rfl) (hb hby at_72) (fun _ _ => ⟨rfl, rfl, (by decide : 6 + 0 ≤ _), (by decide : 89 + 0 ≤ _)⟩)
  dsimp only [Pt.U, Pt.locs, Pt.cells, Pt.slots] at X66 l66 y66 z66 st66 hQ66
  subst l66 y66 z66
  obtain ⟨hs_66, sl_66, rfl, Nq66, Kc66, Fwi_66, Fwo_66, Fha_66, Fsl_66, Fco_66, Vw_66, Vh_66, Vs_66, hhs_66, hsl_66⟩ := hQ66
  have N66 := Fr.app N49 Nq66
  have Z67 : n0 ≤ T66.heap.size := Nat.le_trans Z61 Kc66.1
  have go68 : Go p e below s₁ F0 T66 (mkF m 75 #[vj q1, .second, vj q2, .second, vj q3, .second, vj q4, .second, vi p5, vj b0, .second, vj b1, .second, vr b12, vr b24, vr b37, .unset, .unset, .unset] [(.int (0 : Int32))]) := fun t_ k_ => go65 t_ (st66.trans k_)
  have F69 : Exa Z T66.heap b37 c_0 := (F63.keep Kc66)
  have F70 : Arv Z T66.heap b24 k24 .long (2 : Int32) [(.long b0), (.long b1)] (.long (0 : Int64)) := ((F52.keep Kc49 (ninS ne40 nin0)).keep Kc66 (ninS ne40 (ninS ne53 (ninS ne56 (ninS ne59 nin0)))))
  have go71 : Go p e below s₁ F0 T66 (mkF m 81 #[vj q1, .second, vj q2, .second, vj q3, .second, vj q4, .second, vi p5, vj b0, .second, vj b1, .second, vr b12, vr b24, vr b37, vi (0 : Int32), .unset, .unset] [(.ref b24), (.ref b37)]) := by
    intro t_ k_
    refine go68 t_ ?_
    refine o_istore X66 hx (hb hby at_75) (L' := #[vj q1, .second, vj q2, .second, vj q3, .second, vj q4, .second, vi p5, vj b0, .second, vj b1, .second, vr b12, vr b24, vr b37, vi (0 : Int32), .unset, .unset]) rfl ?_
    refine o_aload X66 hx (hb hby at_77) rfl rfl ?_
    refine o_aload X66 hx (hb hby at_79) rfl rfl ?_
    exact k_
  obtain ⟨cq72, kq72, q72a, q72b, q72c⟩ := isOf hZ rfl F69
  obtain ⟨_, _, ⟨T72, L72, k72, n72⟩, -, X72, ⟨Lc72, hQ72, l72, y72, z72⟩, st72⟩ := X66.virtualBack hx (y := y_4) (z := y_4) hown (mvT hZ (own_w hw 19 rfl)) (mvT hZ (own_w hw 20 rfl)) (notFace_of_selects (args := #[]) (mvT hZ (own_w hw 22 rfl))) (mvT hZ (own_w hw 22 rfl)) (mvT hZ (own_w hw 21 rfl)) (by decide) (backOf (W := 0) (rm3_b2 l Z a0 hw [] b37 b24 bw_49 bh_49 bs_49 kw_49 kh_49 ks_49 k24 hs_66 sl_66 q1 q2 b0 b1 (T66.heap) n0 Z67 F69 Fwi_66 Fwo_66 Fha_66 Fsl_66 Fco_66 Vw_66 Vh_66 Vs_66 F70 g_b37 g_bw_49 g_bh_49 g_bs_49 ne54 ne57 ne60 ne53 ne56 ne59 (Ne.symm ne40) nwh_49 nws_49 nhs_49 hhs_66 hsl_66) hZ (own_w hw 23 rfl) (own_w hw 3 rfl) (by decide) (by decide)) q72a q72c (g := (mkF m 81 #[vj q1, .second, vj q2, .second, vj q3, .second, vj q4, .second, vi p5, vj b0, .second, vj b1, .second, vr b12, vr b24, vr b37, vi (0 : Int32), .unset, .unset] [(.ref b24), (.ref b37)])) rfl (by rw [hml]; rfl) (Steps.refl _) (argsL := [(.ref b24)]) (rest := []) (lenOf pd0_1 rfl) rfl (by show 2 * 0 + _ ≤ _; exact Nat.le_of_eq rfl) (hb hby at_81) (fun _ _ => ⟨rfl, rfl, (by decide : 6 + 0 ≤ _), (by decide : 89 + 0 ≤ _)⟩)
  dsimp only [Pt.U, Pt.locs, Pt.cells, Pt.slots] at X72 l72 y72 z72 st72 hQ72
  subst l72 y72 z72
  obtain ⟨n_72, w0_72, w1_72, rfl, Nq72, Kc72, Fwi_72, Fwo_72, Vw_72, hP_72⟩ := hQ72
  have N72 := Fr.app N66 Nq72
  have Z73 : n0 ≤ T72.heap.size := Nat.le_trans Z67 Kc72.1
  have go74 : Go p e below s₁ F0 T72 (mkF m 84 #[vj q1, .second, vj q2, .second, vj q3, .second, vj q4, .second, vi p5, vj b0, .second, vj b1, .second, vr b12, vr b24, vr b37, vi (0 : Int32), .unset, .unset] [(.int n_72)]) := fun t_ k_ => go71 t_ (st72.trans k_)
  have hcs75 : n_72 = (0 : Int32) ∨ n_72 = (1 : Int32) := own_or hP_72
  rcases hcs75 with hcs75 | hcs75
  · skip
    have go76 : Go p e below s₁ F0 T72 (mkF m 84 #[vj q1, .second, vj q2, .second, vj q3, .second, vj q4, .second, vi p5, vj b0, .second, vj b1, .second, vr b12, vr b24, vr b37, vi (0 : Int32), .unset, .unset] [(.int (0 : Int32))]) := by rw [hcs75] at go74; exact go74
    have go77 : Go p e below s₁ F0 T72 (mkF m 90 #[vj q1, .second, vj q2, .second, vj q3, .second, vj q4, .second, vi p5, vj b0, .second, vj b1, .second, vr b12, vr b24, vr b37, vi (0 : Int32), vi (0 : Int32), .unset] [(.int (lcmpW b0 q1))]) := by
      intro t_ k_
      refine go76 t_ ?_
      refine o_istore X72 hx (hb hby at_84) (L' := #[vj q1, .second, vj q2, .second, vj q3, .second, vj q4, .second, vi p5, vj b0, .second, vj b1, .second, vr b12, vr b24, vr b37, vi (0 : Int32), vi (0 : Int32), .unset]) rfl ?_
      refine o_lload X72 hx (hb hby at_86) rfl ?_
      refine o_lloadN X72 hx (hb hby at_88) rfl ?_
      refine o_lcmp X72 hx (hb hby at_89) ?_
      exact k_
    by_cases hc90_78 : b0 = q1
    · skip
      have go79 : Go p e below s₁ F0 T72 (mkF m 97 #[vj q1, .second, vj q2, .second, vj q3, .second, vj q4, .second, vi p5, vj b0, .second, vj b1, .second, vr b12, vr b24, vr b37, vi (0 : Int32), vi (0 : Int32), .unset] [(.int (lcmpW b1 q2))]) := by
        intro t_ k_
        refine go77 t_ ?_
        refine o_ifNo X72 hx (hb hby at_90) ((if0 _ _).trans (teq ((lw_eq _ _).mpr hc90_78)).2) ?_
        refine o_lload X72 hx (hb hby at_93) rfl ?_
        refine o_lloadN X72 hx (hb hby at_95) rfl ?_
        refine o_lcmp X72 hx (hb hby at_96) ?_
        exact k_
      by_cases hc97_80 : b1 = q2
      · skip
        have go81 : Go p e below s₁ F0 T72 (mkF m 126 #[vj q1, .second, vj q2, .second, vj q3, .second, vj q4, .second, vi p5, vj b0, .second, vj b1, .second, vr b12, vr b24, vr b37, vi (0 : Int32), vi (0 : Int32), vi (0 : Int32)] [(.int (0 : Int32)), (.int (0 : Int32)), (.ref b37)]) := by
          intro t_ k_
          refine go79 t_ ?_
          refine o_ifNo X72 hx (hb hby at_97) ((if0 _ _).trans (teq ((lw_eq _ _).mpr hc97_80)).2) ?_
          refine o_iconst X72 hx (hb hby at_100) (v := 0) rfl ?_
          refine o_goto X72 hx (hb hby at_101) (pc' := 105) rfl (by decide) ?_
          refine o_istore X72 hx (hb hby at_105) (L' := #[vj q1, .second, vj q2, .second, vj q3, .second, vj q4, .second, vi p5, vj b0, .second, vj b1, .second, vr b12, vr b24, vr b37, vi (0 : Int32), vi (0 : Int32), vi (0 : Int32)]) rfl ?_
          refine o_iload X72 hx (hb hby at_107) rfl ?_
          refine o_ifNo X72 hx (hb hby at_109) ((if0 _ _).trans (teq (by decide : (0 : Int32) = (0 : Int32))).2) ?_
          refine o_iload X72 hx (hb hby at_112) rfl ?_
          refine o_iload X72 hx (hb hby at_114) rfl ?_
          refine o_icmpYes X72 hx (hb hby at_116) (pc' := 121) rfl (by decide) (teq (by decide : (0 : Int32) = (0 : Int32))).1 ?_
          refine o_aload X72 hx (hb hby at_121) rfl rfl ?_
          refine o_iload X72 hx (hb hby at_123) rfl ?_
          refine o_iconst X72 hx (hb hby at_125) (v := 0) rfl ?_
          exact k_
        have F83 : Exa Z T72.heap b37 c_0 := (F69.keep Kc72)
        obtain ⟨cq82, kq82, q82a, q82b, q82c⟩ := isOf hZ rfl F83
        obtain ⟨_, _, ⟨T82, L82, k82, n82⟩, -, X82, ⟨Lc82, hQ82, l82, y82, z82⟩, st82⟩ := X72.virtualBack hx (y := y_6) (z := y_6) hown (mvT hZ (own_w hw 46 rfl)) (mvT hZ (own_w hw 47 rfl)) (notFace_of_selects (args := #[]) (mvT hZ (own_w hw 49 rfl))) (mvT hZ (own_w hw 49 rfl)) (mvT hZ (own_w hw 48 rfl)) (by decide) (backOf (W := 0) (rm8_0_0 l Z a0 hw [] b37 bw_49 kw_49 q1 q2 w0_72 w1_72 (T72.heap) n0 Z73 Fwi_72 Fwo_72 Vw_72) hZ (own_w hw 50 rfl) (own_w hw 3 rfl) (by decide) (by decide)) q82a q82c (g := (mkF m 126 #[vj q1, .second, vj q2, .second, vj q3, .second, vj q4, .second, vi p5, vj b0, .second, vj b1, .second, vr b12, vr b24, vr b37, vi (0 : Int32), vi (0 : Int32), vi (0 : Int32)] [(.int (0 : Int32)), (.int (0 : Int32)), (.ref b37)])) rfl (by rw [hml]; rfl) (Steps.refl _) (argsL := [(.int (0 : Int32)), (.int (0 : Int32))]) (rest := []) (lenOf pd0_2 rfl) rfl (by show 2 * 0 + _ ≤ _; exact Nat.le_of_eq rfl) (hb hby at_126) (fun _ _ => ⟨rfl, rfl, (by decide : 6 + 0 ≤ _), (by decide : 89 + 0 ≤ _)⟩)
        dsimp only [Pt.U, Pt.locs, Pt.cells, Pt.slots] at X82 l82 y82 z82 st82 hQ82
        subst l82 y82 z82
        obtain ⟨rfl, Nq82, eh82⟩ := hQ82
        have N82 := Fr.app N72 Nq82
        have go84 : Go p e below s₁ F0 T82 (mkF m 129 #[vj q1, .second, vj q2, .second, vj q3, .second, vj q4, .second, vi p5, vj b0, .second, vj b1, .second, vr b12, vr b24, vr b37, vi (0 : Int32), vi (0 : Int32), vi (0 : Int32)] [(.long q1)]) := fun t_ k_ => go81 t_ (st82.trans k_)
        have go85 : Go p e below s₁ F0 T82 (mkF m 139 #[vj q1, .second, vj q2, .second, vj q3, .second, vj q4, .second, vi p5, vj b0, .second, vj b1, .second, vr b12, vr b24, vr b37, vi (0 : Int32), vi (0 : Int32), vi (0 : Int32)] [(.int (1 : Int32)), (.int (0 : Int32)), (.ref b37)]) := by
          intro t_ k_
          refine go84 t_ ?_
          refine o_lloadN X82 hx (hb hby at_129) rfl ?_
          refine o_lcmp X82 hx (hb hby at_130) ?_
          refine o_ifNo X82 hx (hb hby at_131) ((if0 _ _).trans (teq ((lw_eq _ _).mpr (rfl : q1 = q1))).2) ?_
          refine o_aload X82 hx (hb hby at_134) rfl rfl ?_
          refine o_iload X82 hx (hb hby at_136) rfl ?_
          refine o_iconst X82 hx (hb hby at_138) (v := 1) rfl ?_
          exact k_
        obtain ⟨cq86, kq86, q86a, q86b, q86c⟩ := isOf hZ eh82 F83
        obtain ⟨_, _, ⟨T86, L86, k86, n86⟩, -, X86, ⟨Lc86, hQ86, l86, y86, z86⟩, st86⟩ := X82.virtualBack hx (y := y_6) (z := y_6) hown (mvT hZ (own_w hw 46 rfl)) (mvT hZ (own_w hw 47 rfl)) (notFace_of_selects (args := #[]) (mvT hZ (own_w hw 49 rfl))) (mvT hZ (own_w hw 49 rfl)) (mvT hZ (own_w hw 48 rfl)) (by decide) (backOf (W := 0) (rm8_0_1 l Z a0 hw [] b37 bw_49 kw_49 q1 q2 w0_72 w1_72 (T72.heap) n0 Z73 Fwi_72 Fwo_72 Vw_72) hZ (own_w hw 50 rfl) (own_w hw 3 rfl) (by decide) (by decide)) q86a q86c (g := (mkF m 139 #[vj q1, .second, vj q2, .second, vj q3, .second, vj q4, .second, vi p5, vj b0, .second, vj b1, .second, vr b12, vr b24, vr b37, vi (0 : Int32), vi (0 : Int32), vi (0 : Int32)] [(.int (1 : Int32)), (.int (0 : Int32)), (.ref b37)])) rfl (by rw [hml]; rfl) (Steps.refl _) (argsL := [(.int (0 : Int32)), (.int (1 : Int32))]) (rest := []) (lenOf pd0_2 rfl) rfl (by show 2 * 0 + _ ≤ _; exact Nat.le_of_eq rfl) (hb hby at_139) (fun _ _ => ⟨rfl, eh82, (by decide : 6 + 0 ≤ _), (by decide : 89 + 0 ≤ _)⟩)
        dsimp only [Pt.U, Pt.locs, Pt.cells, Pt.slots] at X86 l86 y86 z86 st86 hQ86
        subst l86 y86 z86
        obtain ⟨rfl, Nq86, eh86⟩ := hQ86
        have N86 := Fr.app N82 Nq86
        have go87 : Go p e below s₁ F0 T86 (mkF m 142 #[vj q1, .second, vj q2, .second, vj q3, .second, vj q4, .second, vi p5, vj b0, .second, vj b1, .second, vr b12, vr b24, vr b37, vi (0 : Int32), vi (0 : Int32), vi (0 : Int32)] [(.long q2)]) := fun t_ k_ => go85 t_ (st86.trans k_)
        have go88 : Go p e below s₁ F0 T86 (mkF m 152 #[vj q1, .second, vj q2, .second, vj q3, .second, vj q4, .second, vi p5, vj b0, .second, vj b1, .second, vr b12, vr b24, vr b37, vi (0 : Int32), vi (0 : Int32), vi (0 : Int32)] [(.int (0 : Int32)), (.int (0 : Int32)), (.ref b37)]) := by
          intro t_ k_
          refine go87 t_ ?_
          refine o_lloadN X86 hx (hb hby at_142) rfl ?_
          refine o_lcmp X86 hx (hb hby at_143) ?_
          refine o_ifNo X86 hx (hb hby at_144) ((if0 _ _).trans (teq ((lw_eq _ _).mpr (rfl : q2 = q2))).2) ?_
          refine o_aload X86 hx (hb hby at_147) rfl rfl ?_
          refine o_iload X86 hx (hb hby at_149) rfl ?_
          refine o_iconst X86 hx (hb hby at_151) (v := 0) rfl ?_
          exact k_
        obtain ⟨cq89, kq89, q89a, q89b, q89c⟩ := isOf hZ eh86 F83
        obtain ⟨_, _, ⟨T89, L89, k89, n89⟩, -, X89, ⟨Lc89, hQ89, l89, y89, z89⟩, st89⟩ := X86.virtualBack hx (y := y_6) (z := y_6) hown (mvT hZ (own_w hw 46 rfl)) (mvT hZ (own_w hw 47 rfl)) (notFace_of_selects (args := #[]) (mvT hZ (own_w hw 49 rfl))) (mvT hZ (own_w hw 49 rfl)) (mvT hZ (own_w hw 48 rfl)) (by decide) (backOf (W := 0) (rm8_0_0 l Z a0 hw [] b37 bw_49 kw_49 q1 q2 w0_72 w1_72 (T72.heap) n0 Z73 Fwi_72 Fwo_72 Vw_72) hZ (own_w hw 50 rfl) (own_w hw 3 rfl) (by decide) (by decide)) q89a q89c (g := (mkF m 152 #[vj q1, .second, vj q2, .second, vj q3, .second, vj q4, .second, vi p5, vj b0, .second, vj b1, .second, vr b12, vr b24, vr b37, vi (0 : Int32), vi (0 : Int32), vi (0 : Int32)] [(.int (0 : Int32)), (.int (0 : Int32)), (.ref b37)])) rfl (by rw [hml]; rfl) (Steps.refl _) (argsL := [(.int (0 : Int32)), (.int (0 : Int32))]) (rest := []) (lenOf pd0_2 rfl) rfl (by show 2 * 0 + _ ≤ _; exact Nat.le_of_eq rfl) (hb hby at_152) (fun _ _ => ⟨rfl, eh86, (by decide : 6 + 0 ≤ _), (by decide : 89 + 0 ≤ _)⟩)
        dsimp only [Pt.U, Pt.locs, Pt.cells, Pt.slots] at X89 l89 y89 z89 st89 hQ89
        subst l89 y89 z89
        obtain ⟨rfl, Nq89, eh89⟩ := hQ89
        have N89 := Fr.app N86 Nq89
        have go90 : Go p e below s₁ F0 T89 (mkF m 155 #[vj q1, .second, vj q2, .second, vj q3, .second, vj q4, .second, vi p5, vj b0, .second, vj b1, .second, vr b12, vr b24, vr b37, vi (0 : Int32), vi (0 : Int32), vi (0 : Int32)] [(.long q1)]) := fun t_ k_ => go88 t_ (st89.trans k_)
        have go92 : Go p e below s₁ F0 T89 (mkF m 158 #[vj q1, .second, vj q2, .second, vj q3, .second, vj q4, .second, vi p5, vj b0, .second, vj b1, .second, vr b12, vr b24, vr b37, vi (0 : Int32), vi (0 : Int32), vi (0 : Int32)] [(.int (lcmpW q1 b0))]) := by
          intro t_ k_
          refine go90 t_ ?_
          refine o_lload X89 hx (hb hby at_155) rfl ?_
          refine o_lcmp X89 hx (hb hby at_157) ?_
          exact k_
        have hd91 : q1 = b0 := (own_l hP_72 hcs75).1
        have go93 : Go p e below s₁ F0 T89 (mkF m 166 #[vj q1, .second, vj q2, .second, vj q3, .second, vj q4, .second, vi p5, vj b0, .second, vj b1, .second, vr b12, vr b24, vr b37, vi (0 : Int32), vi (0 : Int32), vi (0 : Int32)] [(.int (1 : Int32)), (.int (0 : Int32)), (.ref b37)]) := by
          intro t_ k_
          refine go92 t_ ?_
          refine o_ifNo X89 hx (hb hby at_158) ((if0 _ _).trans (teq ((lw_eq _ _).mpr hd91)).2) ?_
          refine o_aload X89 hx (hb hby at_161) rfl rfl ?_
          refine o_iload X89 hx (hb hby at_163) rfl ?_
          refine o_iconst X89 hx (hb hby at_165) (v := 1) rfl ?_
          exact k_
        obtain ⟨cq94, kq94, q94a, q94b, q94c⟩ := isOf hZ eh89 F83
        obtain ⟨_, _, ⟨T94, L94, k94, n94⟩, -, X94, ⟨Lc94, hQ94, l94, y94, z94⟩, st94⟩ := X89.virtualBack hx (y := y_6) (z := y_6) hown (mvT hZ (own_w hw 46 rfl)) (mvT hZ (own_w hw 47 rfl)) (notFace_of_selects (args := #[]) (mvT hZ (own_w hw 49 rfl))) (mvT hZ (own_w hw 49 rfl)) (mvT hZ (own_w hw 48 rfl)) (by decide) (backOf (W := 0) (rm8_0_1 l Z a0 hw [] b37 bw_49 kw_49 q1 q2 w0_72 w1_72 (T72.heap) n0 Z73 Fwi_72 Fwo_72 Vw_72) hZ (own_w hw 50 rfl) (own_w hw 3 rfl) (by decide) (by decide)) q94a q94c (g := (mkF m 166 #[vj q1, .second, vj q2, .second, vj q3, .second, vj q4, .second, vi p5, vj b0, .second, vj b1, .second, vr b12, vr b24, vr b37, vi (0 : Int32), vi (0 : Int32), vi (0 : Int32)] [(.int (1 : Int32)), (.int (0 : Int32)), (.ref b37)])) rfl (by rw [hml]; rfl) (Steps.refl _) (argsL := [(.int (0 : Int32)), (.int (1 : Int32))]) (rest := []) (lenOf pd0_2 rfl) rfl (by show 2 * 0 + _ ≤ _; exact Nat.le_of_eq rfl) (hb hby at_166) (fun _ _ => ⟨rfl, eh89, (by decide : 6 + 0 ≤ _), (by decide : 89 + 0 ≤ _)⟩)
        dsimp only [Pt.U, Pt.locs, Pt.cells, Pt.slots] at X94 l94 y94 z94 st94 hQ94
        subst l94 y94 z94
        obtain ⟨rfl, Nq94, eh94⟩ := hQ94
        have N94 := Fr.app N89 Nq94
        have go95 : Go p e below s₁ F0 T94 (mkF m 169 #[vj q1, .second, vj q2, .second, vj q3, .second, vj q4, .second, vi p5, vj b0, .second, vj b1, .second, vr b12, vr b24, vr b37, vi (0 : Int32), vi (0 : Int32), vi (0 : Int32)] [(.long q2)]) := fun t_ k_ => go93 t_ (st94.trans k_)
        have go97 : Go p e below s₁ F0 T94 (mkF m 172 #[vj q1, .second, vj q2, .second, vj q3, .second, vj q4, .second, vi p5, vj b0, .second, vj b1, .second, vr b12, vr b24, vr b37, vi (0 : Int32), vi (0 : Int32), vi (0 : Int32)] [(.int (lcmpW q2 b1))]) := by
          intro t_ k_
          refine go95 t_ ?_
          refine o_lload X94 hx (hb hby at_169) rfl ?_
          refine o_lcmp X94 hx (hb hby at_171) ?_
          exact k_
        have hd96 : q2 = b1 := (own_l hP_72 hcs75).2
        have go98 : Go p e below s₁ F0 T94 (mkF m 180 #[vj q1, .second, vj q2, .second, vj q3, .second, vj q4, .second, vi p5, vj b0, .second, vj b1, .second, vr b12, vr b24, vr b37, vi (0 : Int32), vi (0 : Int32), vi (0 : Int32)] [(.int (1 : Int32))]) := by
          intro t_ k_
          refine go97 t_ ?_
          refine o_ifNo X94 hx (hb hby at_172) ((if0 _ _).trans (teq ((lw_eq _ _).mpr hd96)).2) ?_
          refine o_iconst X94 hx (hb hby at_175) (v := 1) rfl ?_
          refine o_goto X94 hx (hb hby at_176) (pc' := 180) rfl (by decide) ?_
          exact k_
        obtain ⟨fs, hr, hrun, hended, hW, hsame⟩ := X94.leave (v := some (.int (1 : Int32))) (fun h => by rw [Bd.returns] at h; cases h)
        refine ⟨_, _, pre0 _ (go98 _ ?_), hrun, hended, _, _, rfl, ?_, ⟨_, rfl⟩, hW, hsame.mono (by decide) (by decide)⟩
        · skip
          exact retN X94 hx (t := .boolean) Bd.returns (by simp) (hb hby at_180) hr
        · show Q0 Z q1 q2 q3 q4 p5 h0 n0 _ T94.heap _
          rw [eh94]
          exact ⟨rfl, N94⟩
      · skip
        exact False.elim (hc97_80 (own_l hP_72 hcs75).2.symm)
    · skip
      exact False.elim (hc90_78 (own_l hP_72 hcs75).1.symm)
  · skip
    have go99 : Go p e below s₁ F0 T72 (mkF m 84 #[vj q1, .second, vj q2, .second, vj q3, .second, vj q4, .second, vi p5, vj b0, .second, vj b1, .second, vr b12, vr b24, vr b37, vi (0 : Int32), .unset, .unset] [(.int (1 : Int32))]) := by rw [hcs75] at go74; exact go74
    have go100 : Go p e below s₁ F0 T72 (mkF m 90 #[vj q1, .second, vj q2, .second, vj q3, .second, vj q4, .second, vi p5, vj b0, .second, vj b1, .second, vr b12, vr b24, vr b37, vi (0 : Int32), vi (1 : Int32), .unset] [(.int (lcmpW b0 q1))]) := by
      intro t_ k_
      refine go99 t_ ?_
      refine o_istore X72 hx (hb hby at_84) (L' := #[vj q1, .second, vj q2, .second, vj q3, .second, vj q4, .second, vi p5, vj b0, .second, vj b1, .second, vr b12, vr b24, vr b37, vi (0 : Int32), vi (1 : Int32), .unset]) rfl ?_
      refine o_lload X72 hx (hb hby at_86) rfl ?_
      refine o_lloadN X72 hx (hb hby at_88) rfl ?_
      refine o_lcmp X72 hx (hb hby at_89) ?_
      exact k_
    by_cases hc90_101 : b0 = q1
    · skip
      have go102 : Go p e below s₁ F0 T72 (mkF m 97 #[vj q1, .second, vj q2, .second, vj q3, .second, vj q4, .second, vi p5, vj b0, .second, vj b1, .second, vr b12, vr b24, vr b37, vi (0 : Int32), vi (1 : Int32), .unset] [(.int (lcmpW b1 q2))]) := by
        intro t_ k_
        refine go100 t_ ?_
        refine o_ifNo X72 hx (hb hby at_90) ((if0 _ _).trans (teq ((lw_eq _ _).mpr hc90_101)).2) ?_
        refine o_lload X72 hx (hb hby at_93) rfl ?_
        refine o_lloadN X72 hx (hb hby at_95) rfl ?_
        refine o_lcmp X72 hx (hb hby at_96) ?_
        exact k_
      by_cases hc97_103 : b1 = q2
      · skip
        exact False.elim ((own_r hP_72 hcs75).1 ⟨hc90_101.symm, hc97_103.symm⟩)
      · skip
        have go104 : Go p e below s₁ F0 T72 (mkF m 126 #[vj q1, .second, vj q2, .second, vj q3, .second, vj q4, .second, vi p5, vj b0, .second, vj b1, .second, vr b12, vr b24, vr b37, vi (0 : Int32), vi (1 : Int32), vi (1 : Int32)] [(.int (0 : Int32)), (.int (0 : Int32)), (.ref b37)]) := by
          intro t_ k_
          refine go102 t_ ?_
          refine o_ifYes X72 hx (hb hby at_97) (pc' := 104) rfl (by decide) ((if0 _ _).trans (feq (fun q => hc97_103 ((lw_eq _ _).mp q))).2) ?_
          refine o_iconst X72 hx (hb hby at_104) (v := 1) rfl ?_
          refine o_istore X72 hx (hb hby at_105) (L' := #[vj q1, .second, vj q2, .second, vj q3, .second, vj q4, .second, vi p5, vj b0, .second, vj b1, .second, vr b12, vr b24, vr b37, vi (0 : Int32), vi (1 : Int32), vi (1 : Int32)]) rfl ?_
          refine o_iload X72 hx (hb hby at_107) rfl ?_
          refine o_ifNo X72 hx (hb hby at_109) ((if0 _ _).trans (teq (by decide : (0 : Int32) = (0 : Int32))).2) ?_
          refine o_iload X72 hx (hb hby at_112) rfl ?_
          refine o_iload X72 hx (hb hby at_114) rfl ?_
          refine o_icmpYes X72 hx (hb hby at_116) (pc' := 121) rfl (by decide) (teq (by decide : (1 : Int32) = (1 : Int32))).1 ?_
          refine o_aload X72 hx (hb hby at_121) rfl rfl ?_
          refine o_iload X72 hx (hb hby at_123) rfl ?_
          refine o_iconst X72 hx (hb hby at_125) (v := 0) rfl ?_
          exact k_
        have F106 : Exa Z T72.heap b37 c_0 := (F69.keep Kc72)
        obtain ⟨cq105, kq105, q105a, q105b, q105c⟩ := isOf hZ rfl F106
        obtain ⟨_, _, ⟨T105, L105, k105, n105⟩, -, X105, ⟨Lc105, hQ105, l105, y105, z105⟩, st105⟩ := X72.virtualBack hx (y := y_6) (z := y_6) hown (mvT hZ (own_w hw 46 rfl)) (mvT hZ (own_w hw 47 rfl)) (notFace_of_selects (args := #[]) (mvT hZ (own_w hw 49 rfl))) (mvT hZ (own_w hw 49 rfl)) (mvT hZ (own_w hw 48 rfl)) (by decide) (backOf (W := 0) (rm8_0_0 l Z a0 hw [] b37 bw_49 kw_49 q1 q2 w0_72 w1_72 (T72.heap) n0 Z73 Fwi_72 Fwo_72 Vw_72) hZ (own_w hw 50 rfl) (own_w hw 3 rfl) (by decide) (by decide)) q105a q105c (g := (mkF m 126 #[vj q1, .second, vj q2, .second, vj q3, .second, vj q4, .second, vi p5, vj b0, .second, vj b1, .second, vr b12, vr b24, vr b37, vi (0 : Int32), vi (1 : Int32), vi (1 : Int32)] [(.int (0 : Int32)), (.int (0 : Int32)), (.ref b37)])) rfl (by rw [hml]; rfl) (Steps.refl _) (argsL := [(.int (0 : Int32)), (.int (0 : Int32))]) (rest := []) (lenOf pd0_2 rfl) rfl (by show 2 * 0 + _ ≤ _; exact Nat.le_of_eq rfl) (hb hby at_126) (fun _ _ => ⟨rfl, rfl, (by decide : 6 + 0 ≤ _), (by decide : 89 + 0 ≤ _)⟩)
        dsimp only [Pt.U, Pt.locs, Pt.cells, Pt.slots] at X105 l105 y105 z105 st105 hQ105
        subst l105 y105 z105
        obtain ⟨rfl, Nq105, eh105⟩ := hQ105
        have N105 := Fr.app N72 Nq105
        have go107 : Go p e below s₁ F0 T105 (mkF m 129 #[vj q1, .second, vj q2, .second, vj q3, .second, vj q4, .second, vi p5, vj b0, .second, vj b1, .second, vr b12, vr b24, vr b37, vi (0 : Int32), vi (1 : Int32), vi (1 : Int32)] [(.long q1)]) := fun t_ k_ => go104 t_ (st105.trans k_)
        have go108 : Go p e below s₁ F0 T105 (mkF m 139 #[vj q1, .second, vj q2, .second, vj q3, .second, vj q4, .second, vi p5, vj b0, .second, vj b1, .second, vr b12, vr b24, vr b37, vi (0 : Int32), vi (1 : Int32), vi (1 : Int32)] [(.int (1 : Int32)), (.int (0 : Int32)), (.ref b37)]) := by
          intro t_ k_
          refine go107 t_ ?_
          refine o_lloadN X105 hx (hb hby at_129) rfl ?_
          refine o_lcmp X105 hx (hb hby at_130) ?_
          refine o_ifNo X105 hx (hb hby at_131) ((if0 _ _).trans (teq ((lw_eq _ _).mpr (rfl : q1 = q1))).2) ?_
          refine o_aload X105 hx (hb hby at_134) rfl rfl ?_
          refine o_iload X105 hx (hb hby at_136) rfl ?_
          refine o_iconst X105 hx (hb hby at_138) (v := 1) rfl ?_
          exact k_
        obtain ⟨cq109, kq109, q109a, q109b, q109c⟩ := isOf hZ eh105 F106
        obtain ⟨_, _, ⟨T109, L109, k109, n109⟩, -, X109, ⟨Lc109, hQ109, l109, y109, z109⟩, st109⟩ := X105.virtualBack hx (y := y_6) (z := y_6) hown (mvT hZ (own_w hw 46 rfl)) (mvT hZ (own_w hw 47 rfl)) (notFace_of_selects (args := #[]) (mvT hZ (own_w hw 49 rfl))) (mvT hZ (own_w hw 49 rfl)) (mvT hZ (own_w hw 48 rfl)) (by decide) (backOf (W := 0) (rm8_0_1 l Z a0 hw [] b37 bw_49 kw_49 q1 q2 w0_72 w1_72 (T72.heap) n0 Z73 Fwi_72 Fwo_72 Vw_72) hZ (own_w hw 50 rfl) (own_w hw 3 rfl) (by decide) (by decide)) q109a q109c (g := (mkF m 139 #[vj q1, .second, vj q2, .second, vj q3, .second, vj q4, .second, vi p5, vj b0, .second, vj b1, .second, vr b12, vr b24, vr b37, vi (0 : Int32), vi (1 : Int32), vi (1 : Int32)] [(.int (1 : Int32)), (.int (0 : Int32)), (.ref b37)])) rfl (by rw [hml]; rfl) (Steps.refl _) (argsL := [(.int (0 : Int32)), (.int (1 : Int32))]) (rest := []) (lenOf pd0_2 rfl) rfl (by show 2 * 0 + _ ≤ _; exact Nat.le_of_eq rfl) (hb hby at_139) (fun _ _ => ⟨rfl, eh105, (by decide : 6 + 0 ≤ _), (by decide : 89 + 0 ≤ _)⟩)
        dsimp only [Pt.U, Pt.locs, Pt.cells, Pt.slots] at X109 l109 y109 z109 st109 hQ109
        subst l109 y109 z109
        obtain ⟨rfl, Nq109, eh109⟩ := hQ109
        have N109 := Fr.app N105 Nq109
        have go110 : Go p e below s₁ F0 T109 (mkF m 142 #[vj q1, .second, vj q2, .second, vj q3, .second, vj q4, .second, vi p5, vj b0, .second, vj b1, .second, vr b12, vr b24, vr b37, vi (0 : Int32), vi (1 : Int32), vi (1 : Int32)] [(.long q2)]) := fun t_ k_ => go108 t_ (st109.trans k_)
        have go111 : Go p e below s₁ F0 T109 (mkF m 152 #[vj q1, .second, vj q2, .second, vj q3, .second, vj q4, .second, vi p5, vj b0, .second, vj b1, .second, vr b12, vr b24, vr b37, vi (0 : Int32), vi (1 : Int32), vi (1 : Int32)] [(.int (0 : Int32)), (.int (1 : Int32)), (.ref b37)]) := by
          intro t_ k_
          refine go110 t_ ?_
          refine o_lloadN X109 hx (hb hby at_142) rfl ?_
          refine o_lcmp X109 hx (hb hby at_143) ?_
          refine o_ifNo X109 hx (hb hby at_144) ((if0 _ _).trans (teq ((lw_eq _ _).mpr (rfl : q2 = q2))).2) ?_
          refine o_aload X109 hx (hb hby at_147) rfl rfl ?_
          refine o_iload X109 hx (hb hby at_149) rfl ?_
          refine o_iconst X109 hx (hb hby at_151) (v := 0) rfl ?_
          exact k_
        obtain ⟨cq112, kq112, q112a, q112b, q112c⟩ := isOf hZ eh109 F106
        obtain ⟨_, _, ⟨T112, L112, k112, n112⟩, -, X112, ⟨Lc112, hQ112, l112, y112, z112⟩, st112⟩ := X109.virtualBack hx (y := y_6) (z := y_6) hown (mvT hZ (own_w hw 46 rfl)) (mvT hZ (own_w hw 47 rfl)) (notFace_of_selects (args := #[]) (mvT hZ (own_w hw 49 rfl))) (mvT hZ (own_w hw 49 rfl)) (mvT hZ (own_w hw 48 rfl)) (by decide) (backOf (W := 0) (rm8_1_0 l Z a0 hw [] b37 bw_49 kw_49 q1 q2 w0_72 w1_72 (T72.heap) n0 Z73 Fwi_72 Fwo_72 Vw_72) hZ (own_w hw 50 rfl) (own_w hw 3 rfl) (by decide) (by decide)) q112a q112c (g := (mkF m 152 #[vj q1, .second, vj q2, .second, vj q3, .second, vj q4, .second, vi p5, vj b0, .second, vj b1, .second, vr b12, vr b24, vr b37, vi (0 : Int32), vi (1 : Int32), vi (1 : Int32)] [(.int (0 : Int32)), (.int (1 : Int32)), (.ref b37)])) rfl (by rw [hml]; rfl) (Steps.refl _) (argsL := [(.int (1 : Int32)), (.int (0 : Int32))]) (rest := []) (lenOf pd0_2 rfl) rfl (by show 2 * 0 + _ ≤ _; exact Nat.le_of_eq rfl) (hb hby at_152) (fun _ _ => ⟨rfl, eh109, (by decide : 6 + 0 ≤ _), (by decide : 89 + 0 ≤ _)⟩)
        dsimp only [Pt.U, Pt.locs, Pt.cells, Pt.slots] at X112 l112 y112 z112 st112 hQ112
        subst l112 y112 z112
        obtain ⟨rfl, Nq112, eh112⟩ := hQ112
        have N112 := Fr.app N109 Nq112
        have go113 : Go p e below s₁ F0 T112 (mkF m 155 #[vj q1, .second, vj q2, .second, vj q3, .second, vj q4, .second, vi p5, vj b0, .second, vj b1, .second, vr b12, vr b24, vr b37, vi (0 : Int32), vi (1 : Int32), vi (1 : Int32)] [(.long w0_72)]) := fun t_ k_ => go111 t_ (st112.trans k_)
        have go115 : Go p e below s₁ F0 T112 (mkF m 158 #[vj q1, .second, vj q2, .second, vj q3, .second, vj q4, .second, vi p5, vj b0, .second, vj b1, .second, vr b12, vr b24, vr b37, vi (0 : Int32), vi (1 : Int32), vi (1 : Int32)] [(.int (lcmpW w0_72 b0))]) := by
          intro t_ k_
          refine go113 t_ ?_
          refine o_lload X112 hx (hb hby at_155) rfl ?_
          refine o_lcmp X112 hx (hb hby at_157) ?_
          exact k_
        have hd114 : w0_72 = b0 := (own_r hP_72 hcs75).2.1
        have go116 : Go p e below s₁ F0 T112 (mkF m 166 #[vj q1, .second, vj q2, .second, vj q3, .second, vj q4, .second, vi p5, vj b0, .second, vj b1, .second, vr b12, vr b24, vr b37, vi (0 : Int32), vi (1 : Int32), vi (1 : Int32)] [(.int (1 : Int32)), (.int (1 : Int32)), (.ref b37)]) := by
          intro t_ k_
          refine go115 t_ ?_
          refine o_ifNo X112 hx (hb hby at_158) ((if0 _ _).trans (teq ((lw_eq _ _).mpr hd114)).2) ?_
          refine o_aload X112 hx (hb hby at_161) rfl rfl ?_
          refine o_iload X112 hx (hb hby at_163) rfl ?_
          refine o_iconst X112 hx (hb hby at_165) (v := 1) rfl ?_
          exact k_
        obtain ⟨cq117, kq117, q117a, q117b, q117c⟩ := isOf hZ eh112 F106
        obtain ⟨_, _, ⟨T117, L117, k117, n117⟩, -, X117, ⟨Lc117, hQ117, l117, y117, z117⟩, st117⟩ := X112.virtualBack hx (y := y_6) (z := y_6) hown (mvT hZ (own_w hw 46 rfl)) (mvT hZ (own_w hw 47 rfl)) (notFace_of_selects (args := #[]) (mvT hZ (own_w hw 49 rfl))) (mvT hZ (own_w hw 49 rfl)) (mvT hZ (own_w hw 48 rfl)) (by decide) (backOf (W := 0) (rm8_1_1 l Z a0 hw [] b37 bw_49 kw_49 q1 q2 w0_72 w1_72 (T72.heap) n0 Z73 Fwi_72 Fwo_72 Vw_72) hZ (own_w hw 50 rfl) (own_w hw 3 rfl) (by decide) (by decide)) q117a q117c (g := (mkF m 166 #[vj q1, .second, vj q2, .second, vj q3, .second, vj q4, .second, vi p5, vj b0, .second, vj b1, .second, vr b12, vr b24, vr b37, vi (0 : Int32), vi (1 : Int32), vi (1 : Int32)] [(.int (1 : Int32)), (.int (1 : Int32)), (.ref b37)])) rfl (by rw [hml]; rfl) (Steps.refl _) (argsL := [(.int (1 : Int32)), (.int (1 : Int32))]) (rest := []) (lenOf pd0_2 rfl) rfl (by show 2 * 0 + _ ≤ _; exact Nat.le_of_eq rfl) (hb hby at_166) (fun _ _ => ⟨rfl, eh112, (by decide : 6 + 0 ≤ _), (by decide : 89 + 0 ≤ _)⟩)
        dsimp only [Pt.U, Pt.locs, Pt.cells, Pt.slots] at X117 l117 y117 z117 st117 hQ117
        subst l117 y117 z117
        obtain ⟨rfl, Nq117, eh117⟩ := hQ117
        have N117 := Fr.app N112 Nq117
        have go118 : Go p e below s₁ F0 T117 (mkF m 169 #[vj q1, .second, vj q2, .second, vj q3, .second, vj q4, .second, vi p5, vj b0, .second, vj b1, .second, vr b12, vr b24, vr b37, vi (0 : Int32), vi (1 : Int32), vi (1 : Int32)] [(.long w1_72)]) := fun t_ k_ => go116 t_ (st117.trans k_)
        have go120 : Go p e below s₁ F0 T117 (mkF m 172 #[vj q1, .second, vj q2, .second, vj q3, .second, vj q4, .second, vi p5, vj b0, .second, vj b1, .second, vr b12, vr b24, vr b37, vi (0 : Int32), vi (1 : Int32), vi (1 : Int32)] [(.int (lcmpW w1_72 b1))]) := by
          intro t_ k_
          refine go118 t_ ?_
          refine o_lload X117 hx (hb hby at_169) rfl ?_
          refine o_lcmp X117 hx (hb hby at_171) ?_
          exact k_
        have hd119 : w1_72 = b1 := (own_r hP_72 hcs75).2.2
        have go121 : Go p e below s₁ F0 T117 (mkF m 180 #[vj q1, .second, vj q2, .second, vj q3, .second, vj q4, .second, vi p5, vj b0, .second, vj b1, .second, vr b12, vr b24, vr b37, vi (0 : Int32), vi (1 : Int32), vi (1 : Int32)] [(.int (1 : Int32))]) := by
          intro t_ k_
          refine go120 t_ ?_
          refine o_ifNo X117 hx (hb hby at_172) ((if0 _ _).trans (teq ((lw_eq _ _).mpr hd119)).2) ?_
          refine o_iconst X117 hx (hb hby at_175) (v := 1) rfl ?_
          refine o_goto X117 hx (hb hby at_176) (pc' := 180) rfl (by decide) ?_
          exact k_
        obtain ⟨fs, hr, hrun, hended, hW, hsame⟩ := X117.leave (v := some (.int (1 : Int32))) (fun h => by rw [Bd.returns] at h; cases h)
        refine ⟨_, _, pre0 _ (go121 _ ?_), hrun, hended, _, _, rfl, ?_, ⟨_, rfl⟩, hW, hsame.mono (by decide) (by decide)⟩
        · skip
          exact retN X117 hx (t := .boolean) Bd.returns (by simp) (hb hby at_180) hr
        · show Q0 Z q1 q2 q3 q4 p5 h0 n0 _ T117.heap _
          rw [eh117]
          exact ⟨rfl, N117⟩
    · skip
      have go122 : Go p e below s₁ F0 T72 (mkF m 126 #[vj q1, .second, vj q2, .second, vj q3, .second, vj q4, .second, vi p5, vj b0, .second, vj b1, .second, vr b12, vr b24, vr b37, vi (0 : Int32), vi (1 : Int32), vi (1 : Int32)] [(.int (0 : Int32)), (.int (0 : Int32)), (.ref b37)]) := by
        intro t_ k_
        refine go100 t_ ?_
        refine o_ifYes X72 hx (hb hby at_90) (pc' := 104) rfl (by decide) ((if0 _ _).trans (feq (fun q => hc90_101 ((lw_eq _ _).mp q))).2) ?_
        refine o_iconst X72 hx (hb hby at_104) (v := 1) rfl ?_
        refine o_istore X72 hx (hb hby at_105) (L' := #[vj q1, .second, vj q2, .second, vj q3, .second, vj q4, .second, vi p5, vj b0, .second, vj b1, .second, vr b12, vr b24, vr b37, vi (0 : Int32), vi (1 : Int32), vi (1 : Int32)]) rfl ?_
        refine o_iload X72 hx (hb hby at_107) rfl ?_
        refine o_ifNo X72 hx (hb hby at_109) ((if0 _ _).trans (teq (by decide : (0 : Int32) = (0 : Int32))).2) ?_
        refine o_iload X72 hx (hb hby at_112) rfl ?_
        refine o_iload X72 hx (hb hby at_114) rfl ?_
        refine o_icmpYes X72 hx (hb hby at_116) (pc' := 121) rfl (by decide) (teq (by decide : (1 : Int32) = (1 : Int32))).1 ?_
        refine o_aload X72 hx (hb hby at_121) rfl rfl ?_
        refine o_iload X72 hx (hb hby at_123) rfl ?_
        refine o_iconst X72 hx (hb hby at_125) (v := 0) rfl ?_
        exact k_
      have F124 : Exa Z T72.heap b37 c_0 := (F69.keep Kc72)
      obtain ⟨cq123, kq123, q123a, q123b, q123c⟩ := isOf hZ rfl F124
      obtain ⟨_, _, ⟨T123, L123, k123, n123⟩, -, X123, ⟨Lc123, hQ123, l123, y123, z123⟩, st123⟩ := X72.virtualBack hx (y := y_6) (z := y_6) hown (mvT hZ (own_w hw 46 rfl)) (mvT hZ (own_w hw 47 rfl)) (notFace_of_selects (args := #[]) (mvT hZ (own_w hw 49 rfl))) (mvT hZ (own_w hw 49 rfl)) (mvT hZ (own_w hw 48 rfl)) (by decide) (backOf (W := 0) (rm8_0_0 l Z a0 hw [] b37 bw_49 kw_49 q1 q2 w0_72 w1_72 (T72.heap) n0 Z73 Fwi_72 Fwo_72 Vw_72) hZ (own_w hw 50 rfl) (own_w hw 3 rfl) (by decide) (by decide)) q123a q123c (g := (mkF m 126 #[vj q1, .second, vj q2, .second, vj q3, .second, vj q4, .second, vi p5, vj b0, .second, vj b1, .second, vr b12, vr b24, vr b37, vi (0 : Int32), vi (1 : Int32), vi (1 : Int32)] [(.int (0 : Int32)), (.int (0 : Int32)), (.ref b37)])) rfl (by rw [hml]; rfl) (Steps.refl _) (argsL := [(.int (0 : Int32)), (.int (0 : Int32))]) (rest := []) (lenOf pd0_2 rfl) rfl (by show 2 * 0 + _ ≤ _; exact Nat.le_of_eq rfl) (hb hby at_126) (fun _ _ => ⟨rfl, rfl, (by decide : 6 + 0 ≤ _), (by decide : 89 + 0 ≤ _)⟩)
      dsimp only [Pt.U, Pt.locs, Pt.cells, Pt.slots] at X123 l123 y123 z123 st123 hQ123
      subst l123 y123 z123
      obtain ⟨rfl, Nq123, eh123⟩ := hQ123
      have N123 := Fr.app N72 Nq123
      have go125 : Go p e below s₁ F0 T123 (mkF m 129 #[vj q1, .second, vj q2, .second, vj q3, .second, vj q4, .second, vi p5, vj b0, .second, vj b1, .second, vr b12, vr b24, vr b37, vi (0 : Int32), vi (1 : Int32), vi (1 : Int32)] [(.long q1)]) := fun t_ k_ => go122 t_ (st123.trans k_)
      have go126 : Go p e below s₁ F0 T123 (mkF m 139 #[vj q1, .second, vj q2, .second, vj q3, .second, vj q4, .second, vi p5, vj b0, .second, vj b1, .second, vr b12, vr b24, vr b37, vi (0 : Int32), vi (1 : Int32), vi (1 : Int32)] [(.int (1 : Int32)), (.int (0 : Int32)), (.ref b37)]) := by
        intro t_ k_
        refine go125 t_ ?_
        refine o_lloadN X123 hx (hb hby at_129) rfl ?_
        refine o_lcmp X123 hx (hb hby at_130) ?_
        refine o_ifNo X123 hx (hb hby at_131) ((if0 _ _).trans (teq ((lw_eq _ _).mpr (rfl : q1 = q1))).2) ?_
        refine o_aload X123 hx (hb hby at_134) rfl rfl ?_
        refine o_iload X123 hx (hb hby at_136) rfl ?_
        refine o_iconst X123 hx (hb hby at_138) (v := 1) rfl ?_
        exact k_
      obtain ⟨cq127, kq127, q127a, q127b, q127c⟩ := isOf hZ eh123 F124
      obtain ⟨_, _, ⟨T127, L127, k127, n127⟩, -, X127, ⟨Lc127, hQ127, l127, y127, z127⟩, st127⟩ := X123.virtualBack hx (y := y_6) (z := y_6) hown (mvT hZ (own_w hw 46 rfl)) (mvT hZ (own_w hw 47 rfl)) (notFace_of_selects (args := #[]) (mvT hZ (own_w hw 49 rfl))) (mvT hZ (own_w hw 49 rfl)) (mvT hZ (own_w hw 48 rfl)) (by decide) (backOf (W := 0) (rm8_0_1 l Z a0 hw [] b37 bw_49 kw_49 q1 q2 w0_72 w1_72 (T72.heap) n0 Z73 Fwi_72 Fwo_72 Vw_72) hZ (own_w hw 50 rfl) (own_w hw 3 rfl) (by decide) (by decide)) q127a q127c (g := (mkF m 139 #[vj q1, .second, vj q2, .second, vj q3, .second, vj q4, .second, vi p5, vj b0, .second, vj b1, .second, vr b12, vr b24, vr b37, vi (0 : Int32), vi (1 : Int32), vi (1 : Int32)] [(.int (1 : Int32)), (.int (0 : Int32)), (.ref b37)])) rfl (by rw [hml]; rfl) (Steps.refl _) (argsL := [(.int (0 : Int32)), (.int (1 : Int32))]) (rest := []) (lenOf pd0_2 rfl) rfl (by show 2 * 0 + _ ≤ _; exact Nat.le_of_eq rfl) (hb hby at_139) (fun _ _ => ⟨rfl, eh123, (by decide : 6 + 0 ≤ _), (by decide : 89 + 0 ≤ _)⟩)
      dsimp only [Pt.U, Pt.locs, Pt.cells, Pt.slots] at X127 l127 y127 z127 st127 hQ127
      subst l127 y127 z127
      obtain ⟨rfl, Nq127, eh127⟩ := hQ127
      have N127 := Fr.app N123 Nq127
      have go128 : Go p e below s₁ F0 T127 (mkF m 142 #[vj q1, .second, vj q2, .second, vj q3, .second, vj q4, .second, vi p5, vj b0, .second, vj b1, .second, vr b12, vr b24, vr b37, vi (0 : Int32), vi (1 : Int32), vi (1 : Int32)] [(.long q2)]) := fun t_ k_ => go126 t_ (st127.trans k_)
      have go129 : Go p e below s₁ F0 T127 (mkF m 152 #[vj q1, .second, vj q2, .second, vj q3, .second, vj q4, .second, vi p5, vj b0, .second, vj b1, .second, vr b12, vr b24, vr b37, vi (0 : Int32), vi (1 : Int32), vi (1 : Int32)] [(.int (0 : Int32)), (.int (1 : Int32)), (.ref b37)]) := by
        intro t_ k_
        refine go128 t_ ?_
        refine o_lloadN X127 hx (hb hby at_142) rfl ?_
        refine o_lcmp X127 hx (hb hby at_143) ?_
        refine o_ifNo X127 hx (hb hby at_144) ((if0 _ _).trans (teq ((lw_eq _ _).mpr (rfl : q2 = q2))).2) ?_
        refine o_aload X127 hx (hb hby at_147) rfl rfl ?_
        refine o_iload X127 hx (hb hby at_149) rfl ?_
        refine o_iconst X127 hx (hb hby at_151) (v := 0) rfl ?_
        exact k_
      obtain ⟨cq130, kq130, q130a, q130b, q130c⟩ := isOf hZ eh127 F124
      obtain ⟨_, _, ⟨T130, L130, k130, n130⟩, -, X130, ⟨Lc130, hQ130, l130, y130, z130⟩, st130⟩ := X127.virtualBack hx (y := y_6) (z := y_6) hown (mvT hZ (own_w hw 46 rfl)) (mvT hZ (own_w hw 47 rfl)) (notFace_of_selects (args := #[]) (mvT hZ (own_w hw 49 rfl))) (mvT hZ (own_w hw 49 rfl)) (mvT hZ (own_w hw 48 rfl)) (by decide) (backOf (W := 0) (rm8_1_0 l Z a0 hw [] b37 bw_49 kw_49 q1 q2 w0_72 w1_72 (T72.heap) n0 Z73 Fwi_72 Fwo_72 Vw_72) hZ (own_w hw 50 rfl) (own_w hw 3 rfl) (by decide) (by decide)) q130a q130c (g := (mkF m 152 #[vj q1, .second, vj q2, .second, vj q3, .second, vj q4, .second, vi p5, vj b0, .second, vj b1, .second, vr b12, vr b24, vr b37, vi (0 : Int32), vi (1 : Int32), vi (1 : Int32)] [(.int (0 : Int32)), (.int (1 : Int32)), (.ref b37)])) rfl (by rw [hml]; rfl) (Steps.refl _) (argsL := [(.int (1 : Int32)), (.int (0 : Int32))]) (rest := []) (lenOf pd0_2 rfl) rfl (by show 2 * 0 + _ ≤ _; exact Nat.le_of_eq rfl) (hb hby at_152) (fun _ _ => ⟨rfl, eh127, (by decide : 6 + 0 ≤ _), (by decide : 89 + 0 ≤ _)⟩)
      dsimp only [Pt.U, Pt.locs, Pt.cells, Pt.slots] at X130 l130 y130 z130 st130 hQ130
      subst l130 y130 z130
      obtain ⟨rfl, Nq130, eh130⟩ := hQ130
      have N130 := Fr.app N127 Nq130
      have go131 : Go p e below s₁ F0 T130 (mkF m 155 #[vj q1, .second, vj q2, .second, vj q3, .second, vj q4, .second, vi p5, vj b0, .second, vj b1, .second, vr b12, vr b24, vr b37, vi (0 : Int32), vi (1 : Int32), vi (1 : Int32)] [(.long w0_72)]) := fun t_ k_ => go129 t_ (st130.trans k_)
      have go133 : Go p e below s₁ F0 T130 (mkF m 158 #[vj q1, .second, vj q2, .second, vj q3, .second, vj q4, .second, vi p5, vj b0, .second, vj b1, .second, vr b12, vr b24, vr b37, vi (0 : Int32), vi (1 : Int32), vi (1 : Int32)] [(.int (lcmpW w0_72 b0))]) := by
        intro t_ k_
        refine go131 t_ ?_
        refine o_lload X130 hx (hb hby at_155) rfl ?_
        refine o_lcmp X130 hx (hb hby at_157) ?_
        exact k_
      have hd132 : w0_72 = b0 := (own_r hP_72 hcs75).2.1
      have go134 : Go p e below s₁ F0 T130 (mkF m 166 #[vj q1, .second, vj q2, .second, vj q3, .second, vj q4, .second, vi p5, vj b0, .second, vj b1, .second, vr b12, vr b24, vr b37, vi (0 : Int32), vi (1 : Int32), vi (1 : Int32)] [(.int (1 : Int32)), (.int (1 : Int32)), (.ref b37)]) := by
        intro t_ k_
        refine go133 t_ ?_
        refine o_ifNo X130 hx (hb hby at_158) ((if0 _ _).trans (teq ((lw_eq _ _).mpr hd132)).2) ?_
        refine o_aload X130 hx (hb hby at_161) rfl rfl ?_
        refine o_iload X130 hx (hb hby at_163) rfl ?_
        refine o_iconst X130 hx (hb hby at_165) (v := 1) rfl ?_
        exact k_
      obtain ⟨cq135, kq135, q135a, q135b, q135c⟩ := isOf hZ eh130 F124
      obtain ⟨_, _, ⟨T135, L135, k135, n135⟩, -, X135, ⟨Lc135, hQ135, l135, y135, z135⟩, st135⟩ := X130.virtualBack hx (y := y_6) (z := y_6) hown (mvT hZ (own_w hw 46 rfl)) (mvT hZ (own_w hw 47 rfl)) (notFace_of_selects (args := #[]) (mvT hZ (own_w hw 49 rfl))) (mvT hZ (own_w hw 49 rfl)) (mvT hZ (own_w hw 48 rfl)) (by decide) (backOf (W := 0) (rm8_1_1 l Z a0 hw [] b37 bw_49 kw_49 q1 q2 w0_72 w1_72 (T72.heap) n0 Z73 Fwi_72 Fwo_72 Vw_72) hZ (own_w hw 50 rfl) (own_w hw 3 rfl) (by decide) (by decide)) q135a q135c (g := (mkF m 166 #[vj q1, .second, vj q2, .second, vj q3, .second, vj q4, .second, vi p5, vj b0, .second, vj b1, .second, vr b12, vr b24, vr b37, vi (0 : Int32), vi (1 : Int32), vi (1 : Int32)] [(.int (1 : Int32)), (.int (1 : Int32)), (.ref b37)])) rfl (by rw [hml]; rfl) (Steps.refl _) (argsL := [(.int (1 : Int32)), (.int (1 : Int32))]) (rest := []) (lenOf pd0_2 rfl) rfl (by show 2 * 0 + _ ≤ _; exact Nat.le_of_eq rfl) (hb hby at_166) (fun _ _ => ⟨rfl, eh130, (by decide : 6 + 0 ≤ _), (by decide : 89 + 0 ≤ _)⟩)
      dsimp only [Pt.U, Pt.locs, Pt.cells, Pt.slots] at X135 l135 y135 z135 st135 hQ135
      subst l135 y135 z135
      obtain ⟨rfl, Nq135, eh135⟩ := hQ135
      have N135 := Fr.app N130 Nq135
      have go136 : Go p e below s₁ F0 T135 (mkF m 169 #[vj q1, .second, vj q2, .second, vj q3, .second, vj q4, .second, vi p5, vj b0, .second, vj b1, .second, vr b12, vr b24, vr b37, vi (0 : Int32), vi (1 : Int32), vi (1 : Int32)] [(.long w1_72)]) := fun t_ k_ => go134 t_ (st135.trans k_)
      have go138 : Go p e below s₁ F0 T135 (mkF m 172 #[vj q1, .second, vj q2, .second, vj q3, .second, vj q4, .second, vi p5, vj b0, .second, vj b1, .second, vr b12, vr b24, vr b37, vi (0 : Int32), vi (1 : Int32), vi (1 : Int32)] [(.int (lcmpW w1_72 b1))]) := by
        intro t_ k_
        refine go136 t_ ?_
        refine o_lload X135 hx (hb hby at_169) rfl ?_
        refine o_lcmp X135 hx (hb hby at_171) ?_
        exact k_
      have hd137 : w1_72 = b1 := (own_r hP_72 hcs75).2.2
      have go139 : Go p e below s₁ F0 T135 (mkF m 180 #[vj q1, .second, vj q2, .second, vj q3, .second, vj q4, .second, vi p5, vj b0, .second, vj b1, .second, vr b12, vr b24, vr b37, vi (0 : Int32), vi (1 : Int32), vi (1 : Int32)] [(.int (1 : Int32))]) := by
        intro t_ k_
        refine go138 t_ ?_
        refine o_ifNo X135 hx (hb hby at_172) ((if0 _ _).trans (teq ((lw_eq _ _).mpr hd137)).2) ?_
        refine o_iconst X135 hx (hb hby at_175) (v := 1) rfl ?_
        refine o_goto X135 hx (hb hby at_176) (pc' := 180) rfl (by decide) ?_
        exact k_
      obtain ⟨fs, hr, hrun, hended, hW, hsame⟩ := X135.leave (v := some (.int (1 : Int32))) (fun h => by rw [Bd.returns] at h; cases h)
      refine ⟨_, _, pre0 _ (go139 _ ?_), hrun, hended, _, _, rfl, ?_, ⟨_, rfl⟩, hW, hsame.mono (by decide) (by decide)⟩
      · skip
        exact retN X135 hx (t := .boolean) Bd.returns (by simp) (hb hby at_180) hr
      · show Q0 Z q1 q2 q3 q4 p5 h0 n0 _ T135.heap _
        rw [eh135]
        exact ⟨rfl, N135⟩

set_option maxRecDepth 65536 in
set_option maxHeartbeats 40000000 in
theorem comes_1 {Post : Tables → Env → Array Value → State → Outcome → State → Prop} (hpost : ∀ tb e args s v u, (limb_1_1.after args s (.returned v) u = true ∧ limb_1_2.after args s (.returned v) u = true ∧ True) → FrameEnd s (.returned v) u (Jvm.fieldLocs frame_1_writes args s ++ Jvm.arrayLocs frame_1_arrays args s ++ Jvm.staticLocs frame_1_statics s) 24 256 → Post tb e args s (.returned v) u) :
    ArmFor flags0 classFile x code maxLocals ret World_1 tables_1 room_1 Calls_1 rest_1 Pre_1 Post := by
  intro l hfl _ _ p e ha hc hk s m args below hf hA hF happ hP
  obtain ⟨hcalls, hrest, hpre⟩ := hP
  obtain ⟨-, -, -, hnamed, -, -, -, hat⟩ := (Spec.applies_iff hf).mp happ
  obtain ⟨hg, hn⟩ := and_e (Cond.before_iff.mp (show (Jvm.Cond.and given_1 narrow_1).before args s = true from hpre))
  obtain ⟨g1, g2⟩ := and_e hg
  obtain ⟨g3, g4⟩ := and_e g2
  obtain ⟨g5, g6⟩ := and_e g4
  obtain ⟨g7, g8⟩ := and_e g6
  obtain ⟨g9, g10⟩ := and_e g8
  obtain ⟨w0, w1, w2, w3, w4, rfl⟩ : ∃ w0 w1 w2 w3 w4 : Value, args = #[w0, w1, w2, w3, w4] := by
    have hs : args.size = 5 := by simpa [Cond.value, given_1] using g1
    obtain ⟨L⟩ := args
    match L, hs with
    | [w0, w1, w2, w3, w4], _ => exact ⟨w0, w1, w2, w3, w4, rfl⟩
  have hw := fun d (hd : d ∈ tables_1) => atoms_spec (ws := Jvm.Cond.code x code maxLocals ret :: tables_1) hat d (List.mem_cons_of_mem _ hd)
  have hfit : Fit s := fun {y c} hc i hi => by
    obtain ⟨ha, rfl⟩ := Array.getElem?_eq_some_iff.mp hc
    have q := List.all_eq_true.mp ((Array.all_eq_true_iff_forall_mem.mp hF) _ (Array.getElem_mem ha)) i (List.mem_range.mpr hi)
    simpa [Array.getElem?_eq_getElem hi] using q
  obtain ⟨i0, ei0⟩ := isL_v g3
  obtain rfl : w0 = (.long i0) := Option.some.inj ei0
  obtain ⟨i1, ei1⟩ := isL_v g5
  obtain rfl : w1 = (.long i1) := Option.some.inj ei1
  obtain ⟨i2, ei2⟩ := isL_v g7
  obtain rfl : w2 = (.long i2) := Option.some.inj ei2
  obtain ⟨i3, ei3⟩ := isL_v g9
  obtain rfl : w3 = (.long i3) := Option.some.inj ei3
  obtain ⟨i4, ei4⟩ := is_v g10
  obtain rfl : w4 = (.int i4) := Option.some.inj ei4
  obtain ⟨n, o, h1, h2, h3, _, L, rfl, ⟨rfl, N⟩, hq⟩ := rm0 l s _ hw tables_1 i0 i1 i2 i3 i4  s.heap s.heap.size (Nat.le_refl _)  p e ha hc hk s m _ below hf ((Spec.applies_iff_loose hf).mp happ).1 ⟨rfl, State.Warmed39.refl s, rfl⟩ trivial
  refine ⟨n, _, h1, h2, h3, hpost _ _ _ _ _ _ ⟨Cond.after_iff.mpr rfl, Cond.after_iff.mpr (eq_i res_at (Term.int_eval (1)) rfl), trivial⟩ ⟨hq.1, hq.2.1, (hq.2.2.sift fun y hy => Or.inr (N y hy)).mono (by decide) (by decide)⟩⟩
theorem main_1_1 : Claimed_1_1 := comes_1 fun _ _ _ _ _ _ h hF => ⟨h.1, hF⟩
theorem main_1_2 : Claimed_1_2 := comes_1 fun _ _ _ _ _ _ h hF => ⟨h.2.1, hF⟩
end Jvm.Pilot.@@N@@
namespace Jvm.Pilot.@@N@@
open Jvm Jvm.ClassFile Sem Op Lib Jvm.Free Jvm.Stand Jvm.Pilot.@@N@@.Jvm.D
/-! MADE BY PROGRAM (witnessworld.py) out of the Statement's table words and the real class files: 17 classes; the members and pool entries that the words name. The judged class is class 1, her method 1. -/
namespace start1
open Jvm.ClassFile
def u (s : String) : CpInfo := .utf8 (stringToUtf16 s)
/-- a pool by its gaps: so many unusable entries, then the entry; so many at the end -/
def gap : Nat → List CpInfo → List CpInfo
  | 0, r => r
  | n + 1, r => .unusable :: gap n r
def poolList (es : List (Nat × CpInfo)) (last : Nat) : List CpInfo := es.foldr (fun e r => gap e.1 (e.2 :: r)) (gap last [])
def pool (es : List (Nat × CpInfo)) (last : Nat) : Array CpInfo := ⟨poolList es last⟩
def fileOf (pool : Array CpInfo) (this : Nat) (attrs : Array Attribute := #[]) (ms : Array MethodInfo := #[]) (fl : Nat := 33) (sup : Nat := 0) (ifs : Array Nat := #[]) (fds : Array FieldInfo := #[]) : ClassFile where
  minorVersion := 0
  majorVersion := 65
  constantPool := pool
  accessFlags := fl
  thisClass := this
  superClass := sup
  interfaces := ifs
  fields := fds
  methods := ms
  attributes := attrs
def plain (name : String) (sup : Option ClassId) : Class where
  name := name
  kind := .ordinary
  loader := none
  accessFlags := 33
  super := sup
  interfaces := #[]
  cf := none
  fields := #[]
  methods := #[]
  instanceTypes := #[]
  staticTypes := #[]
  resolved := #[]
  callSites := []
  init := .initialized
  statics := none
  mirror := none

def pool0 : Array CpInfo := pool [(5, u "<init>"), (0, u "()V"), (1, .class_ 10), (1, u "java/lang/Object")] 113

def k0c0 : Code := { maxStack := 0, maxLocals := 1, code := object_method_1_code, exceptionTable := #[], attributes := #[] }
def k0m0 : Method := { name := "<init>", desc := "()V", sig := { parameters := [], returnType := none }, accessFlags := 1, code := some k0c0 }
/-- java/lang/Object -/
def k0 : Class := { plain "java/lang/Object" none with
  accessFlags := 33
  interfaces := #[]
  cf := some (fileOf pool0 8 #[] #[{ accessFlags := 1, nameIndex := 5, descriptorIndex := 6, attributes := #[] }] 33 0 #[] #[])
  fields := #[]
  methods := #[k0m0]
  instanceTypes := #[]
  staticTypes := #[]
  resolved := Array.replicate 124 none
  statics := none }

def pool1 : Array CpInfo := pool [(2, .class_ 4), (1, u "java/lang/Object"), (0, u "<init>"), (0, u "()V"), (0, .class_ 8), (0, u "com/example/grammar_game_solver/grammargamesolver/summary/NumberedSets"), (0, .methodref 7 10), (0, .nameAndType 5 11), (0, u "(I)V"), (0, .methodref 7 13), (0, .nameAndType 14 15), (0, u "numberOf"), (0, u "([J)I"), (0, .methodref 7 17), (0, .nameAndType 18 19), (0, u "word"), (0, u "(II)J"), (0, .class_ 21), (0, u "com/example/grammar_game_solver/grammargamesolver/summary/NumberedSetsWordPinLaw"), (2, u "law"), (0, u "(JJJJI)Z")] 5

def k1m0 : Method := { name := "<init>", desc := "()V", sig := { parameters := [], returnType := none }, accessFlags := 1, code := none }
def k1c1 : Code := { maxStack := 5, maxLocals := 19, code := code, exceptionTable := #[], attributes := #[] }
def k1m1 : Method := { name := "law", desc := "(JJJJI)Z", sig := { parameters := [.long, .long, .long, .long, .int], returnType := some .boolean }, accessFlags := 9, code := some k1c1 }
/-- com/example/grammar_game_solver/grammargamesolver/summary/NumberedSetsWordPinLaw -/
def k1 : Class := { plain "com/example/grammar_game_solver/grammargamesolver/summary/NumberedSetsWordPinLaw" (some 0) with
  accessFlags := 49
  interfaces := #[]
  cf := some (fileOf pool1 20 #[] #[{ accessFlags := 1, nameIndex := 5, descriptorIndex := 6, attributes := #[] }, { accessFlags := 9, nameIndex := 24, descriptorIndex := 25, attributes := #[] }] 49 2 #[] #[])
  fields := #[]
  methods := #[k1m0, k1m1]
  instanceTypes := #[]
  staticTypes := #[]
  resolved := Array.replicate 31 none
  statics := none }

def pool2 : Array CpInfo := pool [(1, .methodref 2 3), (0, .class_ 4), (0, .nameAndType 5 6), (0, u "java/lang/Object"), (0, u "<init>"), (0, u "()V"), (0, .fieldref 8 9), (0, .class_ 10), (0, .nameAndType 11 12), (0, u "com/example/grammar_game_solver/grammargamesolver/summary/NumberedSets"), (0, u "width"), (0, u "I"), (0, .fieldref 8 14), (0, .nameAndType 15 16), (0, u "words"), (0, u "[J"), (0, .fieldref 8 18), (0, .nameAndType 19 20), (0, u "hashes"), (0, u "[I"), (0, .fieldref 8 22), (0, .nameAndType 23 20), (0, u "slots"), (0, .fieldref 8 25), (0, .nameAndType 26 12), (0, u "count"), (0, .methodref 8 28), (0, .nameAndType 29 30), (0, u "numberOf"), (0, u "([JI)I"), (0, .methodref 32 33), (0, .class_ 34), (0, .nameAndType 35 36), (0, u "java/lang/Long"), (0, u "hashCode"), (0, u "(J)I"), (0, .methodref 8 38), (0, .nameAndType 39 40), (0, u "slotOf"), (0, u "(II)I"), (0, .methodref 8 42), (0, .nameAndType 43 44), (0, u "equalsAt"), (0, u "(I[JI)Z"), (9, .methodref 55 56), (0, .class_ 57), (0, .nameAndType 58 59), (0, u "java/lang/System"), (0, u "arraycopy"), (0, u "(Ljava/lang/Object;ILjava/lang/Object;II)V"), (3, .integer 2654435769), (0, u "FIRST_CAPACITY"), (2, u "(I)V"), (3, u "([J)I"), (2, u "word"), (0, u "(II)J")] 6

def k2c0 : Code := { maxStack := 3, maxLocals := 2, code := prog_63_method_1_code, exceptionTable := #[], attributes := #[] }
def k2m0 : Method := { name := "<init>", desc := "(I)V", sig := { parameters := [.int], returnType := none }, accessFlags := 0, code := some k2c0 }
def k2c1 : Code := { maxStack := 3, maxLocals := 2, code := prog_63_method_4_code, exceptionTable := #[], attributes := #[] }
def k2m1 : Method := { name := "numberOf", desc := "([J)I", sig := { parameters := [(.array .long)], returnType := some .int }, accessFlags := 0, code := some k2c1 }
def k2c2 : Code := { maxStack := 5, maxLocals := 7, code := prog_63_method_6_code, exceptionTable := #[], attributes := #[] }
def k2m2 : Method := { name := "numberOf", desc := "([JI)I", sig := { parameters := [(.array .long), .int], returnType := some .int }, accessFlags := 2, code := some k2c2 }
def k2c3 : Code := { maxStack := 3, maxLocals := 3, code := prog_63_method_7_code, exceptionTable := #[], attributes := #[] }
def k2m3 : Method := { name := "word", desc := "(II)J", sig := { parameters := [.int, .int], returnType := some .long }, accessFlags := 0, code := some k2c3 }
def k2c4 : Code := { maxStack := 5, maxLocals := 6, code := prog_63_method_10_code, exceptionTable := #[], attributes := #[] }
def k2m4 : Method := { name := "equalsAt", desc := "(I[JI)Z", sig := { parameters := [.int, (.array .long), .int], returnType := some .boolean }, accessFlags := 2, code := some k2c4 }
def k2c5 : Code := { maxStack := 3, maxLocals := 3, code := prog_63_method_12_code, exceptionTable := #[], attributes := #[] }
def k2m5 : Method := { name := "slotOf", desc := "(II)I", sig := { parameters := [.int, .int], returnType := some .int }, accessFlags := 10, code := some k2c5 }
/-- com/example/grammar_game_solver/grammargamesolver/summary/NumberedSets -/
def k2 : Class := { plain "com/example/grammar_game_solver/grammargamesolver/summary/NumberedSets" (some 0) with
  accessFlags := 32
  interfaces := #[]
  cf := some (fileOf pool2 8 #[] #[{ accessFlags := 0, nameIndex := 5, descriptorIndex := 67, attributes := #[] }, { accessFlags := 0, nameIndex := 29, descriptorIndex := 71, attributes := #[] }, { accessFlags := 2, nameIndex := 29, descriptorIndex := 30, attributes := #[] }, { accessFlags := 0, nameIndex := 74, descriptorIndex := 75, attributes := #[] }, { accessFlags := 2, nameIndex := 43, descriptorIndex := 44, attributes := #[] }, { accessFlags := 10, nameIndex := 39, descriptorIndex := 40, attributes := #[] }] 32 2 #[] #[{ accessFlags := 26, nameIndex := 64, descriptorIndex := 12, attributes := #[] }, { accessFlags := 18, nameIndex := 11, descriptorIndex := 12, attributes := #[] }, { accessFlags := 2, nameIndex := 15, descriptorIndex := 16, attributes := #[] }, { accessFlags := 2, nameIndex := 19, descriptorIndex := 20, attributes := #[] }, { accessFlags := 2, nameIndex := 23, descriptorIndex := 20, attributes := #[] }, { accessFlags := 2, nameIndex := 26, descriptorIndex := 12, attributes := #[] }])
  fields := #[{ name := "FIRST_CAPACITY", type := .int, accessFlags := 26, slot := 0, constantValue := 0 }, { name := "width", type := .int, accessFlags := 18, slot := 0, constantValue := 0 }, { name := "words", type := (.array .long), accessFlags := 2, slot := 1, constantValue := 0 }, { name := "hashes", type := (.array .int), accessFlags := 2, slot := 2, constantValue := 0 }, { name := "slots", type := (.array .int), accessFlags := 2, slot := 3, constantValue := 0 }, { name := "count", type := .int, accessFlags := 2, slot := 4, constantValue := 0 }]
  methods := #[k2m0, k2m1, k2m2, k2m3, k2m4, k2m5]
  instanceTypes := #[.int, (.array .long), (.array .int), (.array .int), .int]
  staticTypes := #[.int]
  resolved := Array.replicate 82 none
  statics := none }

def pool3 : Array CpInfo := pool [(1, .class_ 2), (0, u "java/io/Serializable"), (0, .class_ 4), (0, u "java/lang/Object")] 2

/-- java/io/Serializable -/
def k3 : Class := { plain "java/io/Serializable" (some 0) with
  accessFlags := 1537
  interfaces := #[]
  cf := some (fileOf pool3 1 #[] #[] 1537 3 #[] #[])
  fields := #[]
  methods := #[]
  instanceTypes := #[]
  staticTypes := #[]
  resolved := Array.replicate 7 none
  statics := none }

def pool4 : Array CpInfo := pool [(2, .class_ 4), (1, u "java/lang/Object"), (0, u "<init>"), (0, u "()V"), (1, .class_ 10), (1, u "java/lang/Number"), (2, .class_ 14), (0, u "java/io/Serializable"), (0, u "serialVersionUID"), (0, u "J")] 20

def k4m0 : Method := { name := "<init>", desc := "()V", sig := { parameters := [], returnType := none }, accessFlags := 1, code := none }
/-- java/lang/Number -/
def k4 : Class := { plain "java/lang/Number" (some 0) with
  accessFlags := 1057
  interfaces := #[3]
  cf := some (fileOf pool4 8 #[] #[{ accessFlags := 1, nameIndex := 5, descriptorIndex := 6, attributes := #[] }] 1057 2 #[13] #[{ accessFlags := 26, nameIndex := 15, descriptorIndex := 16, attributes := #[] }])
  fields := #[{ name := "serialVersionUID", type := .long, accessFlags := 26, slot := 0, constantValue := 0 }]
  methods := #[k4m0]
  instanceTypes := #[]
  staticTypes := #[.long]
  resolved := Array.replicate 37 none
  statics := none }

def pool5 : Array CpInfo := pool [(1, .class_ 2), (0, u "java/lang/Comparable"), (0, .class_ 4), (0, u "java/lang/Object")] 7

/-- java/lang/Comparable -/
def k5 : Class := { plain "java/lang/Comparable" (some 0) with
  accessFlags := 1537
  interfaces := #[]
  cf := some (fileOf pool5 1 #[] #[] 1537 3 #[] #[])
  fields := #[]
  methods := #[]
  instanceTypes := #[]
  staticTypes := #[]
  resolved := Array.replicate 12 none
  statics := none }

def pool6 : Array CpInfo := pool [(1, .class_ 2), (0, u "java/lang/constant/Constable"), (0, .class_ 4), (0, u "java/lang/Object")] 6

/-- java/lang/constant/Constable -/
def k6 : Class := { plain "java/lang/constant/Constable" (some 0) with
  accessFlags := 1537
  interfaces := #[]
  cf := some (fileOf pool6 1 #[] #[] 1537 3 #[] #[])
  fields := #[]
  methods := #[]
  instanceTypes := #[]
  staticTypes := #[]
  resolved := Array.replicate 11 none
  statics := none }

def pool7 : Array CpInfo := pool [(1, .class_ 2), (0, u "java/lang/constant/ConstantDesc"), (0, .class_ 4), (0, u "java/lang/Object")] 32

/-- java/lang/constant/ConstantDesc -/
def k7 : Class := { plain "java/lang/constant/ConstantDesc" (some 0) with
  accessFlags := 1537
  interfaces := #[]
  cf := some (fileOf pool7 1 #[] #[] 1537 3 #[] #[])
  fields := #[]
  methods := #[]
  instanceTypes := #[]
  staticTypes := #[]
  resolved := Array.replicate 37 none
  statics := none }

def pool8 : Array CpInfo := pool [(1, .class_ 2), (0, u "java/lang/Long"), (98, u "(J)I"), (133, .class_ 237), (1, u "java/lang/Long$LongCache"), (33, .class_ 272), (0, u "java/lang/Number"), (2, u "value"), (0, u "J"), (2, u "hashCode"), (81, u "TYPE"), (0, u "Ljava/lang/Class;"), (0, .class_ 364), (0, u "java/lang/Comparable"), (0, .class_ 366), (0, u "java/lang/constant/Constable"), (0, .class_ 368), (0, u "java/lang/constant/ConstantDesc"), (0, u "MIN_VALUE"), (1, u "MAX_VALUE"), (4, u "SIZE"), (0, u "I"), (1, u "BYTES"), (1, u "serialVersionUID")] 142

def k8c0 : Code := { maxStack := 5, maxLocals := 2, code := jdk_35_method_36_code, exceptionTable := #[], attributes := #[] }
def k8m0 : Method := { name := "hashCode", desc := "(J)I", sig := { parameters := [.long], returnType := some .int }, accessFlags := 9, code := some k8c0 }
/-- java/lang/Long -/
def k8 : Class := { plain "java/lang/Long" (some 4) with
  accessFlags := 49
  interfaces := #[5, 6, 7]
  cf := some (fileOf pool8 1 #[.nestMembers #[235]] #[{ accessFlags := 9, nameIndex := 279, descriptorIndex := 101, attributes := #[] }] 49 271 #[363, 365, 367] #[{ accessFlags := 25, nameIndex := 369, descriptorIndex := 276, attributes := #[] }, { accessFlags := 25, nameIndex := 371, descriptorIndex := 276, attributes := #[] }, { accessFlags := 25, nameIndex := 361, descriptorIndex := 362, attributes := #[] }, { accessFlags := 18, nameIndex := 275, descriptorIndex := 276, attributes := #[] }, { accessFlags := 25, nameIndex := 376, descriptorIndex := 377, attributes := #[] }, { accessFlags := 25, nameIndex := 379, descriptorIndex := 377, attributes := #[] }, { accessFlags := 26, nameIndex := 381, descriptorIndex := 276, attributes := #[] }])
  fields := #[{ name := "MIN_VALUE", type := .long, accessFlags := 25, slot := 0, constantValue := 0 }, { name := "MAX_VALUE", type := .long, accessFlags := 25, slot := 1, constantValue := 0 }, { name := "TYPE", type := (.object "java/lang/Class"), accessFlags := 25, slot := 2, constantValue := 0 }, { name := "value", type := .long, accessFlags := 18, slot := 0, constantValue := 0 }, { name := "SIZE", type := .int, accessFlags := 25, slot := 3, constantValue := 0 }, { name := "BYTES", type := .int, accessFlags := 25, slot := 4, constantValue := 0 }, { name := "serialVersionUID", type := .long, accessFlags := 26, slot := 5, constantValue := 0 }]
  methods := #[k8m0]
  instanceTypes := #[.long]
  staticTypes := #[.long, .long, (.object "java/lang/Class"), .int, .int, .long]
  resolved := Array.replicate 524 none
  statics := none }

def pool9 : Array CpInfo := pool [(2, .class_ 4), (1, u "java/lang/Object"), (0, u "<init>"), (0, u "()V"), (1, .class_ 10), (1, u "java/lang/System"), (0, u "allowSecurityManager"), (0, u "I"), (16, u "cons"), (0, u "Ljava/io/Console;"), (77, .class_ 110), (1, u "java/lang/System$CallersHolder"), (43, u "initialErrStream"), (0, u "Ljava/io/PrintStream;"), (19, u "security"), (0, u "Ljava/lang/SecurityManager;"), (31, .class_ 209), (0, u "java/lang/System$1"), (7, u "props"), (0, u "Ljava/util/Properties;"), (2, u "lineSeparator"), (0, u "Ljava/lang/String;"), (96, .class_ 321), (1, u "java/lang/System$LoggerFinder"), (5, .class_ 328), (0, u "java/lang/System$Logger"), (67, u "err"), (2, u "out"), (91, u "notSupportedJnuEncoding"), (15, u "in"), (17, u "initialIn"), (0, u "Ljava/io/InputStream;"), (35, u "bootLayer"), (0, u "Ljava/lang/ModuleLayer;"), (99, .class_ 664), (0, u "java/lang/System$2"), (9, u "NEVER"), (2, u "MAYBE"), (49, u "arraycopy"), (0, u "(Ljava/lang/Object;ILjava/lang/Object;II)V"), (72, .class_ 802), (0, u "java/lang/System$Logger$Level")] 31

def k9m0 : Method := { name := "<init>", desc := "()V", sig := { parameters := [], returnType := none }, accessFlags := 2, code := none }
def k9m1 : Method := { name := "arraycopy", desc := "(Ljava/lang/Object;ILjava/lang/Object;II)V", sig := { parameters := [(.object "java/lang/Object"), .int, (.object "java/lang/Object"), .int, .int], returnType := none }, accessFlags := 265, code := none }
/-- java/lang/System -/
def k9 : Class := { plain "java/lang/System" (some 0) with
  accessFlags := 49
  interfaces := #[]
  cf := some (fileOf pool9 8 #[.nestMembers #[319, 327, 801, 108, 663, 208]] #[{ accessFlags := 2, nameIndex := 5, descriptorIndex := 6, attributes := #[] }, { accessFlags := 265, nameIndex := 727, descriptorIndex := 728, attributes := #[] }] 49 2 #[] #[{ accessFlags := 25, nameIndex := 507, descriptorIndex := 526, attributes := #[] }, { accessFlags := 25, nameIndex := 399, descriptorIndex := 155, attributes := #[] }, { accessFlags := 25, nameIndex := 396, descriptorIndex := 155, attributes := #[] }, { accessFlags := 10, nameIndex := 525, descriptorIndex := 526, attributes := #[] }, { accessFlags := 26, nameIndex := 674, descriptorIndex := 12, attributes := #[] }, { accessFlags := 26, nameIndex := 677, descriptorIndex := 12, attributes := #[] }, { accessFlags := 10, nameIndex := 11, descriptorIndex := 12, attributes := #[] }, { accessFlags := 74, nameIndex := 175, descriptorIndex := 176, attributes := #[] }, { accessFlags := 10, nameIndex := 491, descriptorIndex := 222, attributes := #[] }, { accessFlags := 74, nameIndex := 29, descriptorIndex := 30, attributes := #[] }, { accessFlags := 74, nameIndex := 154, descriptorIndex := 155, attributes := #[] }, { accessFlags := 10, nameIndex := 217, descriptorIndex := 218, attributes := #[] }, { accessFlags := 10, nameIndex := 221, descriptorIndex := 222, attributes := #[] }, { accessFlags := 8, nameIndex := 562, descriptorIndex := 563, attributes := #[] }])
  fields := #[{ name := "in", type := (.object "java/io/InputStream"), accessFlags := 25, slot := 0, constantValue := 0 }, { name := "out", type := (.object "java/io/PrintStream"), accessFlags := 25, slot := 1, constantValue := 0 }, { name := "err", type := (.object "java/io/PrintStream"), accessFlags := 25, slot := 2, constantValue := 0 }, { name := "initialIn", type := (.object "java/io/InputStream"), accessFlags := 10, slot := 3, constantValue := 0 }, { name := "NEVER", type := .int, accessFlags := 26, slot := 4, constantValue := 0 }, { name := "MAYBE", type := .int, accessFlags := 26, slot := 5, constantValue := 0 }, { name := "allowSecurityManager", type := .int, accessFlags := 10, slot := 6, constantValue := 0 }, { name := "security", type := (.object "java/lang/SecurityManager"), accessFlags := 74, slot := 7, constantValue := 0 }, { name := "notSupportedJnuEncoding", type := (.object "java/lang/String"), accessFlags := 10, slot := 8, constantValue := 0 }, { name := "cons", type := (.object "java/io/Console"), accessFlags := 74, slot := 9, constantValue := 0 }, { name := "initialErrStream", type := (.object "java/io/PrintStream"), accessFlags := 74, slot := 10, constantValue := 0 }, { name := "props", type := (.object "java/util/Properties"), accessFlags := 10, slot := 11, constantValue := 0 }, { name := "lineSeparator", type := (.object "java/lang/String"), accessFlags := 10, slot := 12, constantValue := 0 }, { name := "bootLayer", type := (.object "java/lang/ModuleLayer"), accessFlags := 8, slot := 13, constantValue := 0 }]
  methods := #[k9m0, k9m1]
  instanceTypes := #[]
  staticTypes := #[(.object "java/io/InputStream"), (.object "java/io/PrintStream"), (.object "java/io/PrintStream"), (.object "java/io/InputStream"), .int, .int, .int, (.object "java/lang/SecurityManager"), (.object "java/lang/String"), (.object "java/io/Console"), (.object "java/io/PrintStream"), (.object "java/util/Properties"), (.object "java/lang/String"), (.object "java/lang/ModuleLayer")]
  resolved := Array.replicate 834 none
  statics := none }

def pool10 : Array CpInfo := pool [(1, u "java/lang/Cloneable"), (0, .class_ 1), (0, u "java/lang/Object"), (0, .class_ 3)] 3

/-- java/lang/Cloneable -/
def k10 : Class := { plain "java/lang/Cloneable" (some 0) with
  accessFlags := 1537
  interfaces := #[]
  cf := some (fileOf pool10 2 #[] #[] 1537 4 #[] #[])
  fields := #[]
  methods := #[]
  instanceTypes := #[]
  staticTypes := #[]
  resolved := Array.replicate 8 none
  statics := none }

/-- the primitive byte -/
def k11 : Class := { plain "byte" none with kind := .primitive 'B', accessFlags := 0x411 }
/-- [B -/
def k12 : Class := { plain "[B" (some 0) with kind := .array 11 .byte, interfaces := #[10, 3], accessFlags := 1041 }

/-- the primitive int -/
def k13 : Class := { plain "int" none with kind := .primitive 'I', accessFlags := 0x411 }
/-- [I -/
def k14 : Class := { plain "[I" (some 0) with kind := .array 13 .int, interfaces := #[10, 3], accessFlags := 1041 }

/-- the primitive long -/
def k15 : Class := { plain "long" none with kind := .primitive 'J', accessFlags := 0x411 }
/-- [J -/
def k16 : Class := { plain "[J" (some 0) with kind := .array 15 .long, interfaces := #[10, 3], accessFlags := 1041 }

def heap : Heap := #[]
def classes : Array Class := #[k0, k1, k2, k3, k4, k5, k6, k7, k8, k9, k10, k11, k12, k13, k14, k15, k16]
def interned : List (Array UInt16 × Addr) := []
def slotsUsed : Nat := 0
def theMethod : MethodId := ⟨1, 1⟩
def args0 : Array Value := #[.long 5, .long 5, .long 5, .long 5, .int 5]
def aboutOver (below : List Frame) : State where
  vm := { classes := classes, interned := interned.toArray }
  heap := heap
  slotsUsed := slotsUsed
  threads := #[{ frames := .invoking theMethod args0 :: below }]
def below0 : List Frame := [.native { method := ⟨0, 0⟩, args := #[] }]
def about1 : State := aboutOver below0
def p0 : Program := .bare "" "" ""
def e0 : Env := launch0.env 0 0 0
theorem w_frames : about1.frames = Frame.invoking theMethod args0 :: below0 := rfl
set_option maxRecDepth 65536 in
theorem w_args : argsFit about1.vm theMethod args0 = true := by decide +kernel
set_option maxRecDepth 65536 in
theorem w_heap : heapFits about1 = true := by decide +kernel
set_option maxRecDepth 65536 in
theorem w_runnable : about1.curStatus? = some .runnable := by decide +kernel
set_option maxRecDepth 65536 in
theorem w_alone : about1.alone = true := by decide +kernel
set_option maxRecDepth 65536 in
theorem w_named : about1.methodNamed? x = some theMethod := by decide +kernel
set_option maxRecDepth 65536 in
theorem w_hears : about1.hears theMethod below0 = true := by decide +kernel
set_option maxRecDepth 65536 in
theorem w_ripe : about1.ripe theMethod args0 below0 = true := by decide +kernel
theorem w_running : about1.status = .running := rfl
set_option maxRecDepth 65536 in
theorem w_room : about1.hasRoom e0.platform room_1 = true :=
  launch0.hasRoom_least _ room_1 (by decide +kernel) (by decide +kernel) (by decide +kernel) (by decide +kernel) (by decide +kernel) (by decide +kernel)
theorem allAtoms_all (ts : List Jvm.Cond) (a : Array Jvm.Value) (st : Jvm.State) : (allAtoms ts).before a st = ts.all (fun c => c.before a st) := by
  induction ts with
  | nil => rfl
  | cons c t ih =>
    show (Jvm.Cond.and c (allAtoms t)).before a st = _
    rw [Jvm.Cond.before_and, ih, List.all_cons]
def words1 : List Jvm.Cond := Jvm.Cond.code x code maxLocals ret :: tables_1
/-- a 'code' word, met by the world's own term for the bytes: nothing is compared byte by byte -/
theorem code_word {y : MethodName} {bytes : ByteArray} {mx : Nat} {rt : Option FieldType} {a : Array Value} {s : State} {m : MethodId} {meth : Method} {c : Code} (h1 : s.methodNamed? y = some m) (h2 : s.vm.method? m = some meth) (h3 : meth.code = some c) (h4 : c.code = bytes)
    (h5 : (c.maxLocals == mx && c.exceptionTable.isEmpty && decide (c.maxStack ≤ mostOperands) && decide (meth.sig.returnType = rt) && !meth.locks && decide (parseMethodDescriptor y.desc = some meth.sig)) = true) : (Jvm.Cond.code y bytes mx rt).before a s = true := by
  simp only [Bool.and_eq_true, beq_iff_eq, Bool.not_eq_true', decide_eq_true_eq] at h5
  obtain ⟨⟨⟨⟨⟨g1, g2⟩, g3⟩, g4⟩, g5⟩, g6⟩ := h5
  simp [Cond.before, Cond.holds, Cond.value, h1, h2, h3, h4, g1, g2, g3, g4, g5, g6]
def isCode : Jvm.Cond → Bool
  | .code _ _ _ _ => true
  | _ => false
theorem all_split {L : List Jvm.Cond} {P : Jvm.Cond → Bool} (h1 : L.all (fun c => isCode c || P c) = true) (h2 : ∀ c ∈ L.filter isCode, P c = true) : L.all P = true := by
  refine List.all_eq_true.mpr fun c hc => ?_
  have h := List.all_eq_true.mp h1 c hc
  rcases Bool.eq_false_or_eq_true (isCode c) with hi | hi
  · exact h2 c (List.mem_filter.mpr ⟨hc, hi⟩)
  · simpa [hi] using h
set_option maxRecDepth 65536 in
theorem w_c0 : (Jvm.Cond.code x code maxLocals ret).before args0 about1 = true := code_word (m := ⟨1, 1⟩) (meth := k1m1) (c := k1c1) (by decide +kernel) rfl rfl rfl (by decide +kernel)
set_option maxRecDepth 65536 in
theorem w_c1 : (Jvm.Cond.code ({ cls := "com/example/grammar_game_solver/grammargamesolver/summary/NumberedSets", name := "<init>", desc := "(I)V" } : Jvm.MethodName) prog_63_method_1_code (2 : Nat) (Option.none : Option Jvm.ClassFile.FieldType)).before args0 about1 = true := code_word (m := ⟨2, 0⟩) (meth := k2m0) (c := k2c0) (by decide +kernel) rfl rfl rfl (by decide +kernel)
set_option maxRecDepth 65536 in
theorem w_c2 : (Jvm.Cond.code ({ cls := "java/lang/Object", name := "<init>", desc := "()V" } : Jvm.MethodName) object_method_1_code (1 : Nat) (Option.none : Option Jvm.ClassFile.FieldType)).before args0 about1 = true := code_word (m := ⟨0, 0⟩) (meth := k0m0) (c := k0c0) (by decide +kernel) rfl rfl rfl (by decide +kernel)
set_option maxRecDepth 65536 in
theorem w_c3 : (Jvm.Cond.code ({ cls := "com/example/grammar_game_solver/grammargamesolver/summary/NumberedSets", name := "numberOf", desc := "([J)I" } : Jvm.MethodName) prog_63_method_4_code (2 : Nat) (Option.some Jvm.ClassFile.FieldType.int)).before args0 about1 = true := code_word (m := ⟨2, 1⟩) (meth := k2m1) (c := k2c1) (by decide +kernel) rfl rfl rfl (by decide +kernel)
set_option maxRecDepth 65536 in
theorem w_c4 : (Jvm.Cond.code ({ cls := "com/example/grammar_game_solver/grammargamesolver/summary/NumberedSets", name := "numberOf", desc := "([JI)I" } : Jvm.MethodName) prog_63_method_6_code (7 : Nat) (Option.some Jvm.ClassFile.FieldType.int)).before args0 about1 = true := code_word (m := ⟨2, 2⟩) (meth := k2m2) (c := k2c2) (by decide +kernel) rfl rfl rfl (by decide +kernel)
set_option maxRecDepth 65536 in
theorem w_c5 : (Jvm.Cond.code ({ cls := "java/lang/Long", name := "hashCode", desc := "(J)I" } : Jvm.MethodName) jdk_35_method_36_code (2 : Nat) (Option.some Jvm.ClassFile.FieldType.int)).before args0 about1 = true := code_word (m := ⟨8, 0⟩) (meth := k8m0) (c := k8c0) (by decide +kernel) rfl rfl rfl (by decide +kernel)
set_option maxRecDepth 65536 in
theorem w_c6 : (Jvm.Cond.code ({ cls := "com/example/grammar_game_solver/grammargamesolver/summary/NumberedSets", name := "slotOf", desc := "(II)I" } : Jvm.MethodName) prog_63_method_12_code (3 : Nat) (Option.some Jvm.ClassFile.FieldType.int)).before args0 about1 = true := code_word (m := ⟨2, 5⟩) (meth := k2m5) (c := k2c5) (by decide +kernel) rfl rfl rfl (by decide +kernel)
set_option maxRecDepth 65536 in
theorem w_c7 : (Jvm.Cond.code ({ cls := "com/example/grammar_game_solver/grammargamesolver/summary/NumberedSets", name := "equalsAt", desc := "(I[JI)Z" } : Jvm.MethodName) prog_63_method_10_code (6 : Nat) (Option.some Jvm.ClassFile.FieldType.boolean)).before args0 about1 = true := code_word (m := ⟨2, 4⟩) (meth := k2m4) (c := k2c4) (by decide +kernel) rfl rfl rfl (by decide +kernel)
set_option maxRecDepth 65536 in
theorem w_c8 : (Jvm.Cond.code ({ cls := "com/example/grammar_game_solver/grammargamesolver/summary/NumberedSets", name := "word", desc := "(II)J" } : Jvm.MethodName) prog_63_method_7_code (3 : Nat) (Option.some Jvm.ClassFile.FieldType.long)).before args0 about1 = true := code_word (m := ⟨2, 3⟩) (meth := k2m3) (c := k2c3) (by decide +kernel) rfl rfl rfl (by decide +kernel)
def codes1 : List Jvm.Cond := [Jvm.Cond.code x code maxLocals ret, Jvm.Cond.code ({ cls := "com/example/grammar_game_solver/grammargamesolver/summary/NumberedSets", name := "<init>", desc := "(I)V" } : Jvm.MethodName) prog_63_method_1_code (2 : Nat) (Option.none : Option Jvm.ClassFile.FieldType), Jvm.Cond.code ({ cls := "java/lang/Object", name := "<init>", desc := "()V" } : Jvm.MethodName) object_method_1_code (1 : Nat) (Option.none : Option Jvm.ClassFile.FieldType), Jvm.Cond.code ({ cls := "com/example/grammar_game_solver/grammargamesolver/summary/NumberedSets", name := "numberOf", desc := "([J)I" } : Jvm.MethodName) prog_63_method_4_code (2 : Nat) (Option.some Jvm.ClassFile.FieldType.int), Jvm.Cond.code ({ cls := "com/example/grammar_game_solver/grammargamesolver/summary/NumberedSets", name := "numberOf", desc := "([JI)I" } : Jvm.MethodName) prog_63_method_6_code (7 : Nat) (Option.some Jvm.ClassFile.FieldType.int), Jvm.Cond.code ({ cls := "java/lang/Long", name := "hashCode", desc := "(J)I" } : Jvm.MethodName) jdk_35_method_36_code (2 : Nat) (Option.some Jvm.ClassFile.FieldType.int), Jvm.Cond.code ({ cls := "com/example/grammar_game_solver/grammargamesolver/summary/NumberedSets", name := "slotOf", desc := "(II)I" } : Jvm.MethodName) prog_63_method_12_code (3 : Nat) (Option.some Jvm.ClassFile.FieldType.int), Jvm.Cond.code ({ cls := "com/example/grammar_game_solver/grammargamesolver/summary/NumberedSets", name := "equalsAt", desc := "(I[JI)Z" } : Jvm.MethodName) prog_63_method_10_code (6 : Nat) (Option.some Jvm.ClassFile.FieldType.boolean), Jvm.Cond.code ({ cls := "com/example/grammar_game_solver/grammargamesolver/summary/NumberedSets", name := "word", desc := "(II)J" } : Jvm.MethodName) prog_63_method_7_code (3 : Nat) (Option.some Jvm.ClassFile.FieldType.long)]
set_option maxRecDepth 65536 in
theorem codes_eq : words1.filter isCode = codes1 := rfl
theorem w_codes : ∀ c ∈ words1.filter isCode, c.before args0 about1 = true := by
  rw [codes_eq]
  intro c hc
  simp only [codes1, List.mem_cons, List.not_mem_nil, or_false] at hc
  rcases hc with rfl | rfl | rfl | rfl | rfl | rfl | rfl | rfl | rfl
  · exact w_c0
  · exact w_c1
  · exact w_c2
  · exact w_c3
  · exact w_c4
  · exact w_c5
  · exact w_c6
  · exact w_c7
  · exact w_c8
set_option maxRecDepth 65536 in
theorem w_t1 : (words1.take 24).all (fun c => isCode c || c.before args0 about1) = true := by decide +kernel
set_option maxRecDepth 65536 in
theorem w_t2 : ((words1.drop 24).take 24).all (fun c => isCode c || c.before args0 about1) = true := by decide +kernel
set_option maxRecDepth 65536 in
theorem w_t3 : ((words1.drop 24).drop 24).all (fun c => isCode c || c.before args0 about1) = true := by decide +kernel
theorem w_tables : (allAtoms (Jvm.Cond.code x code maxLocals ret :: tables_1)).before args0 about1 = true := by
  rw [allAtoms_all]
  show words1.all (fun c => c.before args0 about1) = true
  refine all_split ?_ w_codes
  rw [← List.take_append_drop 24 words1, List.all_append, w_t1, ← List.take_append_drop 24 (words1.drop 24), List.all_append, w_t2, w_t3]
  rfl
set_option maxRecDepth 65536 in
theorem w_case : (Jvm.Cond.and given_1 narrow_1).before args0 about1 = true := by decide +kernel
theorem w_applies : (headSpec (Jvm.Cond.code x code maxLocals ret :: tables_1) room_1).applies x e0.platform about1 = true :=
  (Spec.applies_iff w_frames).mpr ⟨w_running, w_runnable, w_alone, w_named, w_hears, w_ripe, w_room, w_tables⟩
theorem atStart : AtStart classFile x code maxLocals ret World_1 tables_1 room_1 Calls_1 rest_1 Pre_1 launch0 p0 e0 about1 theMethod args0 below0 :=
  ⟨lists_1, trivial, launch0.admits_env _ _ _, launch0.least_env, fairChoices_fair.cas, fairChoices_fair.clock, w_frames, w_args, w_heap, w_applies, trivial, trivial, w_case⟩
end start1
theorem witness_1 : WitnessClaimed_1 := ⟨start1.p0, start1.e0, start1.about1, start1.theMethod, start1.args0, start1.below0, start1.atStart⟩
end Jvm.Pilot.@@N@@
