import JvmDerived
import JvmDerived.Pilot.@@N@@Statement
import JvmDerived.Pilot.@@N@@Code
set_option linter.unusedVariables false
set_option linter.unusedSimpArgs false

namespace Jvm.RoadKit
open Sem ClassFile Op Lib Jvm.Stand Jvm.Free Jvm.LawKit
section New
variable {p : Program} {l : Launch} {e : Env} {R : Room} {s : State} {m : MethodId} {args : Array Value} {below : List Frame} {meth : Method} {c : Code} {T : State} {locs : List Loc} {cells slots : Nat}
theorem retI (X : Stand p l e R s m args below meth c T locs cells slots) (hx : p.tables.exec = Jvm.exec) {pc : Nat} {Ls : Array Slot} {z : Int32} {rest : List Value} (hret : meth.sig.returnType = some .int) (hd : decode c.code pc = .ok (.ireturn, 1)) {fs : List Frame}
    (hl : ∀ (f : JFrame) (acts : List Action), f.method = m → f.locked = none → f.entered = [] → (doReturn e (T.setTop f) acts (some (.int z))).1 = T.setFrames fs) : Steps p.tables e below (T.setTop (mkF m pc Ls (.int z :: rest))) (T.setFrames fs) := by
  have hm' : T.vm.method? m = some meth := X.method'
  have hn : narrow .int (.int z) = .int z := rfl
  show Steps p.tables e below (T.setTop { method := m, pc := pc, locals := Ls, stack := _ :: rest, locked := none }) _
  jvm_step X.here [X.here.top, hx, hd, hm', hret, hn]
  first | (intro acts; rw [hl _ acts rfl rfl rfl]) | rw [hl _ _ rfl rfl rfl]
  exact Steps.refl _
end New
end Jvm.RoadKit
namespace Jvm.Pilot.@@N@@
open Jvm Jvm.ClassFile Sem Op Lib Jvm.Free Jvm.Stand Jvm.LawKit Jvm.RoadKit Bundle Jvm.Pilot.@@N@@.Jvm.D
abbrev c_0 : String := "com/example/grammar_game_solver/grammargamesolver/summary/NumberedSets"
abbrev y_0 : MethodName := ⟨"java/lang/Long", "hashCode", "(J)I"⟩
abbrev y_1 : MethodName := ⟨"com/example/grammar_game_solver/grammargamesolver/summary/NumberedSets", "slotOf", "(II)I"⟩
abbrev y_2 : MethodName := ⟨"com/example/grammar_game_solver/grammargamesolver/summary/NumberedSets", "<init>", "(I)V"⟩
abbrev y_3 : MethodName := ⟨"com/example/grammar_game_solver/grammargamesolver/summary/NumberedSets", "numberOf", "([JI)I"⟩
abbrev y_4 : MethodName := ⟨"com/example/grammar_game_solver/grammargamesolver/summary/NumberedSets", "numberOf", "([J)I"⟩
abbrev y_5 : MethodName := ⟨"com/example/grammar_game_solver/grammargamesolver/summary/NumberedSets", "equalsAt", "(I[JI)Z"⟩
abbrev y_6 : MethodName := ⟨"com/example/grammar_game_solver/grammargamesolver/summary/NumberedSets", "copy", "(I[J)V"⟩
abbrev own_zl (n : Nat) : List Value := List.replicate n (.long (0 : Int64))
abbrev own_zi (n : Nat) : List Value := List.replicate n (.int (0 : Int32))
abbrev own_zr (n : Nat) : List Value := List.replicate n .null
abbrev vi (x : Int32) : Slot := .val (.int x)
abbrev vj (x : Int64) : Slot := .val (.long x)
abbrev vr (x : Addr) : Slot := .val (.ref x)
section Steps
variable {p : Program} {l : Launch} {e : Env} {R : Room} {s : State} {m : MethodId} {args : Array Value} {below : List Frame} {meth : Method} {c : Code} {T : State} {locs : List Loc} {cells slots : Nat} {pc pc' : Nat} {Ls L' : Array Slot} {S : List Value} {t : State} {Z : State} {h : Heap} {a : Addr} {cl : Cell}
abbrev Go (p : Program) (e : Env) (below : List Frame) (T0 : State) (g0 : JFrame) (T : State) (g : JFrame) : Prop := ∀ t, Steps p.tables e below (T.setTop g) t → Steps p.tables e below (T0.setTop g0) t
theorem own_w {Z : State} {a0 : Array Value} (hw : ∀ d ∈ tables_1, d.before a0 Z = true) (k : Nat) {d : Jvm.Cond} (h : tables_1[k]? = some d) : d.before a0 Z = true := hw _ (List.mem_of_getElem? h)
theorem o_iloadN (X : Stand p l e R s m args below meth c T locs cells slots) (hx : p.tables.exec = Jvm.exec) {i : Fin 4} {v : Int32} (hd : decode c.code pc = .ok (.iload_n i, 1)) (hl : Ls[i.val]? = some (.val (.int v))) (k : Steps p.tables e below (T.setTop (mkF m (pc + 1) Ls (.int v :: S))) t) : Steps p.tables e below (T.setTop (mkF m pc Ls (S))) t := XS.iloadN X.here hx rfl hd hl k
theorem o_iload (X : Stand p l e R s m args below meth c T locs cells slots) (hx : p.tables.exec = Jvm.exec) {i : Nat} {v : Int32} (hd : decode c.code pc = .ok (.iload i, 2)) (hl : Ls[i]? = some (.val (.int v))) (k : Steps p.tables e below (T.setTop (mkF m (pc + 2) Ls (.int v :: S))) t) : Steps p.tables e below (T.setTop (mkF m pc Ls (S))) t := XS.iload X.here hx rfl hd hl k
theorem o_lloadN (X : Stand p l e R s m args below meth c T locs cells slots) (hx : p.tables.exec = Jvm.exec) {i : Fin 4} {v : Int64} (hd : decode c.code pc = .ok (.lload_n i, 1)) (hl : Ls[i.val]? = some (.val (.long v))) (k : Steps p.tables e below (T.setTop (mkF m (pc + 1) Ls (.long v :: S))) t) : Steps p.tables e below (T.setTop (mkF m pc Ls (S))) t := XS.lloadN X.here hx rfl hd hl k
theorem o_lload (X : Stand p l e R s m args below meth c T locs cells slots) (hx : p.tables.exec = Jvm.exec) {i : Nat} {v : Int64} (hd : decode c.code pc = .ok (.lload i, 2)) (hl : Ls[i]? = some (.val (.long v))) (k : Steps p.tables e below (T.setTop (mkF m (pc + 2) Ls (.long v :: S))) t) : Steps p.tables e below (T.setTop (mkF m pc Ls (S))) t := XS.lload X.here hx rfl hd hl k
theorem o_aloadN (X : Stand p l e R s m args below meth c T locs cells slots) (hx : p.tables.exec = Jvm.exec) {i : Fin 4} {v : Value} (hd : decode c.code pc = .ok (.aload_n i, 1)) (hl : Ls[i.val]? = some (.val v)) (hv : v.isRef = true) (k : Steps p.tables e below (T.setTop (mkF m (pc + 1) Ls (v :: S))) t) : Steps p.tables e below (T.setTop (mkF m pc Ls (S))) t := XS.aloadN X.here hx rfl hd hl hv k
theorem o_aload (X : Stand p l e R s m args below meth c T locs cells slots) (hx : p.tables.exec = Jvm.exec) {i : Nat} {v : Value} (hd : decode c.code pc = .ok (.aload i, 2)) (hl : Ls[i]? = some (.val v)) (hv : v.isRef = true) (k : Steps p.tables e below (T.setTop (mkF m (pc + 2) Ls (v :: S))) t) : Steps p.tables e below (T.setTop (mkF m pc Ls (S))) t := XS.aload X.here hx rfl hd hl hv k
theorem o_istoreN (X : Stand p l e R s m args below meth c T locs cells slots) (hx : p.tables.exec = Jvm.exec) {i : Fin 4} {v : Int32} (hd : decode c.code pc = .ok (.istore_n i, 1)) (hl : storeLocals Ls i.val (.int v) = some L') (k : Steps p.tables e below (T.setTop (mkF m (pc + 1) L' (S))) t) : Steps p.tables e below (T.setTop (mkF m pc Ls (.int v :: S))) t := XS.istoreN X.here hx rfl hd rfl hl k
theorem o_istore (X : Stand p l e R s m args below meth c T locs cells slots) (hx : p.tables.exec = Jvm.exec) {i : Nat} {v : Int32} (hd : decode c.code pc = .ok (.istore i, 2)) (hl : storeLocals Ls i (.int v) = some L') (k : Steps p.tables e below (T.setTop (mkF m (pc + 2) L' (S))) t) : Steps p.tables e below (T.setTop (mkF m pc Ls (.int v :: S))) t := XS.istore X.here hx rfl hd rfl hl k
theorem o_astore (X : Stand p l e R s m args below meth c T locs cells slots) (hx : p.tables.exec = Jvm.exec) {i : Nat} {v : Value} (hd : decode c.code pc = .ok (.astore i, 2)) (hv : v.isRef = true) (hl : storeLocals Ls i v = some L') (k : Steps p.tables e below (T.setTop (mkF m (pc + 2) L' (S))) t) : Steps p.tables e below (T.setTop (mkF m pc Ls (v :: S))) t := XS.astore X.here hx rfl hd rfl hv hl k
theorem o_iconst (X : Stand p l e R s m args below meth c T locs cells slots) (hx : p.tables.exec = Jvm.exec) {i : Int} {v : Int32} (hd : decode c.code pc = .ok (.iconst i, 1)) (hv : v = Int32.ofInt i) (k : Steps p.tables e below (T.setTop (mkF m (pc + 1) Ls (.int v :: S))) t) : Steps p.tables e below (T.setTop (mkF m pc Ls (S))) t := XS.iconst X.here hx rfl hd (hv ▸ k)
theorem o_bipush (X : Stand p l e R s m args below meth c T locs cells slots) (hx : p.tables.exec = Jvm.exec) {i : Int} {v : Int32} (hd : decode c.code pc = .ok (.bipush i, 2)) (hv : v = (Int8.ofInt i).toInt32) (k : Steps p.tables e below (T.setTop (mkF m (pc + 2) Ls (.int v :: S))) t) : Steps p.tables e below (T.setTop (mkF m pc Ls (S))) t := XS.bipush X.here hx rfl hd (hv ▸ k)
theorem o_ldc (X : Stand p l e R s m args below meth c T locs cells slots) (hx : p.tables.exec = Jvm.exec) {own : String} {i : Nat} {v : Int32} (ho : s.vm.findClass own = some m.cls) (w : (Cond.constant own i v).before args s = true) (hd : decode c.code pc = .ok (.ldc i, 2))  (k : Steps p.tables e below (T.setTop (mkF m (pc + 2) Ls (.int v :: S))) t) : Steps p.tables e below (T.setTop (mkF m pc Ls (S))) t := X.ldcInt hx ho w (g := mkF m pc Ls S) rfl hd _ k
theorem o_iadd (X : Stand p l e R s m args below meth c T locs cells slots) (hx : p.tables.exec = Jvm.exec) {x y : Int32} (hd : decode c.code pc = .ok (.iadd, 1))  (k : Steps p.tables e below (T.setTop (mkF m (pc + 1) Ls (.int (x + y) :: S))) t) : Steps p.tables e below (T.setTop (mkF m pc Ls (.int y :: .int x :: S))) t := XS.iadd X.here hx rfl hd rfl k
theorem o_iaddE (X : Stand p l e R s m args below meth c T locs cells slots) (hx : p.tables.exec = Jvm.exec) {x y v : Int32} (hd : decode c.code pc = .ok (.iadd, 1)) (hv : v = x + y) (k : Steps p.tables e below (T.setTop (mkF m (pc + 1) Ls (.int v :: S))) t) : Steps p.tables e below (T.setTop (mkF m pc Ls (.int y :: .int x :: S))) t := XS.iadd X.here hx rfl hd rfl (hv ▸ k)
theorem o_isubE (X : Stand p l e R s m args below meth c T locs cells slots) (hx : p.tables.exec = Jvm.exec) {x y v : Int32} (hd : decode c.code pc = .ok (.isub, 1)) (hv : v = x - y) (k : Steps p.tables e below (T.setTop (mkF m (pc + 1) Ls (.int v :: S))) t) : Steps p.tables e below (T.setTop (mkF m pc Ls (.int y :: .int x :: S))) t := XS.isub X.here hx rfl hd rfl (hv ▸ k)
theorem o_imul (X : Stand p l e R s m args below meth c T locs cells slots) (hx : p.tables.exec = Jvm.exec) {x y : Int32} (hd : decode c.code pc = .ok (.imul, 1))  (k : Steps p.tables e below (T.setTop (mkF m (pc + 1) Ls (.int (x * y) :: S))) t) : Steps p.tables e below (T.setTop (mkF m pc Ls (.int y :: .int x :: S))) t := XS.imul X.here hx rfl hd rfl k
theorem o_imulE (X : Stand p l e R s m args below meth c T locs cells slots) (hx : p.tables.exec = Jvm.exec) {x y v : Int32} (hd : decode c.code pc = .ok (.imul, 1)) (hv : v = x * y) (k : Steps p.tables e below (T.setTop (mkF m (pc + 1) Ls (.int v :: S))) t) : Steps p.tables e below (T.setTop (mkF m pc Ls (.int y :: .int x :: S))) t := XS.imul X.here hx rfl hd rfl (hv ▸ k)
theorem o_iand (X : Stand p l e R s m args below meth c T locs cells slots) (hx : p.tables.exec = Jvm.exec) {x y : Int32} (hd : decode c.code pc = .ok (.iand, 1))  (k : Steps p.tables e below (T.setTop (mkF m (pc + 1) Ls (.int (x &&& y) :: S))) t) : Steps p.tables e below (T.setTop (mkF m pc Ls (.int y :: .int x :: S))) t := XS.iand X.here hx rfl hd rfl k
theorem o_ixor (X : Stand p l e R s m args below meth c T locs cells slots) (hx : p.tables.exec = Jvm.exec) {x y : Int32} (hd : decode c.code pc = .ok (.ixor, 1))  (k : Steps p.tables e below (T.setTop (mkF m (pc + 1) Ls (.int (x ^^^ y) :: S))) t) : Steps p.tables e below (T.setTop (mkF m pc Ls (.int y :: .int x :: S))) t := XS.ixor X.here hx rfl hd rfl k
theorem o_lxor (X : Stand p l e R s m args below meth c T locs cells slots) (hx : p.tables.exec = Jvm.exec) {x y : Int64} (hd : decode c.code pc = .ok (.lxor, 1))  (k : Steps p.tables e below (T.setTop (mkF m (pc + 1) Ls (.long (x ^^^ y) :: S))) t) : Steps p.tables e below (T.setTop (mkF m pc Ls (.long y :: .long x :: S))) t := XS.lxor X.here hx rfl hd rfl k
theorem o_l2i (X : Stand p l e R s m args below meth c T locs cells slots) (hx : p.tables.exec = Jvm.exec) {x : Int64} (hd : decode c.code pc = .ok (.l2i, 1))  (k : Steps p.tables e below (T.setTop (mkF m (pc + 1) Ls (.int (x.toInt32) :: S))) t) : Steps p.tables e below (T.setTop (mkF m pc Ls (.long x :: S))) t := XS.l2i X.here hx rfl hd rfl k
theorem o_iushr (X : Stand p l e R s m args below meth c T locs cells slots) (hx : p.tables.exec = Jvm.exec) {x : Int32} {y : Int32} (hd : decode c.code pc = .ok (.iushr, 1))  (k : Steps p.tables e below (T.setTop (mkF m (pc + 1) Ls (.int ((x.toUInt32 >>> (y &&& 31).toUInt32).toInt32) :: S))) t) : Steps p.tables e below (T.setTop (mkF m pc Ls (.int y :: .int x :: S))) t := XS.iushr X.here hx rfl hd rfl k
theorem o_lushr (X : Stand p l e R s m args below meth c T locs cells slots) (hx : p.tables.exec = Jvm.exec) {x : Int64} {y : Int32} (hd : decode c.code pc = .ok (.lushr, 1))  (k : Steps p.tables e below (T.setTop (mkF m (pc + 1) Ls (.long ((x.toUInt64 >>> (y &&& 0x3f).toInt64.toUInt64).toInt64) :: S))) t) : Steps p.tables e below (T.setTop (mkF m pc Ls (.int y :: .long x :: S))) t := XS.lushr X.here hx rfl hd rfl k
theorem o_lcmp (X : Stand p l e R s m args below meth c T locs cells slots) (hx : p.tables.exec = Jvm.exec) {x y : Int64} (hd : decode c.code pc = .ok (.lcmp, 1))  (k : Steps p.tables e below (T.setTop (mkF m (pc + 1) Ls (.int (lcmpW x y) :: S))) t) : Steps p.tables e below (T.setTop (mkF m pc Ls (.long y :: .long x :: S))) t := XS.lcmp X.here hx rfl hd rfl k
theorem o_iinc (X : Stand p l e R s m args below meth c T locs cells slots) (hx : p.tables.exec = Jvm.exec) {i : Nat} {cst : Int} {x : Int32} (hd : decode c.code pc = .ok (.iinc i cst, 3)) (hl : Ls[i]? = some (.val (.int x))) (hl' : storeLocals Ls i (.int (x + Int32.ofInt cst)) = some L') (k : Steps p.tables e below (T.setTop (mkF m (pc + 3) L' (S))) t) : Steps p.tables e below (T.setTop (mkF m pc Ls (S))) t := XS.iinc X.here hx rfl hd hl hl' k
theorem o_dup (X : Stand p l e R s m args below meth c T locs cells slots) (hx : p.tables.exec = Jvm.exec) {x : Value} (hd : decode c.code pc = .ok (.dup, 1)) (hc : x.category = 1) (k : Steps p.tables e below (T.setTop (mkF m (pc + 1) Ls (x :: x :: S))) t) : Steps p.tables e below (T.setTop (mkF m pc Ls (x :: S))) t := XS.dup X.here hx rfl hd rfl hc k
theorem o_dupX1 (X : Stand p l e R s m args below meth c T locs cells slots) (hx : p.tables.exec = Jvm.exec) {x y : Value} (hd : decode c.code pc = .ok (.dup_x1, 1)) (hc : x.category = 1) (hc' : y.category = 1) (k : Steps p.tables e below (T.setTop (mkF m (pc + 1) Ls (x :: y :: x :: S))) t) : Steps p.tables e below (T.setTop (mkF m pc Ls (x :: y :: S))) t := XS.dupX1 X.here hx rfl hd rfl hc hc' k
theorem o_goto (X : Stand p l e R s m args below meth c T locs cells slots) (hx : p.tables.exec = Jvm.exec) {o : Int} (hd : decode c.code pc = .ok (.goto o, 3)) (hp : ((pc : Int) + o).toNat = pc') (ho : 0 ≤ (pc : Int) + o) (k : Steps p.tables e below (T.setTop (mkF m (pc') Ls (S))) t) : Steps p.tables e below (T.setTop (mkF m pc Ls (S))) t := XS.goto X.here hx rfl rfl hd ho hp k
theorem o_ifYes (X : Stand p l e R s m args below meth c T locs cells slots) (hx : p.tables.exec = Jvm.exec) {cd : ClassFile.Cond} {x : Int32} {o : Int} (hd : decode c.code pc = .ok (.ifCond cd o, 3)) (hp : ((pc : Int) + o).toNat = pc') (ho : 0 ≤ (pc : Int) + o) (hc : ifCond.holds cd x = true) (k : Steps p.tables e below (T.setTop (mkF m (pc') Ls (S))) t) : Steps p.tables e below (T.setTop (mkF m pc Ls (.int x :: S))) t := XS.ifYes X.here hx rfl rfl hd rfl hc ho hp k
theorem o_ifNo (X : Stand p l e R s m args below meth c T locs cells slots) (hx : p.tables.exec = Jvm.exec) {cd : ClassFile.Cond} {x : Int32} {o : Int} (hd : decode c.code pc = .ok (.ifCond cd o, 3)) (hc : ifCond.holds cd x = false) (k : Steps p.tables e below (T.setTop (mkF m (pc + 3) Ls (S))) t) : Steps p.tables e below (T.setTop (mkF m pc Ls (.int x :: S))) t := XS.ifNo X.here hx rfl hd rfl hc k
theorem o_icmpYes (X : Stand p l e R s m args below meth c T locs cells slots) (hx : p.tables.exec = Jvm.exec) {cd : ClassFile.Cond} {x y : Int32} {o : Int} (hd : decode c.code pc = .ok (.if_icmp cd o, 3)) (hp : ((pc : Int) + o).toNat = pc') (ho : 0 ≤ (pc : Int) + o) (hc : if_icmp.holds cd x y = true) (k : Steps p.tables e below (T.setTop (mkF m (pc') Ls (S))) t) : Steps p.tables e below (T.setTop (mkF m pc Ls (.int y :: .int x :: S))) t := XS.icmpYes X.here hx rfl rfl hd rfl hc ho hp k
theorem o_icmpNo (X : Stand p l e R s m args below meth c T locs cells slots) (hx : p.tables.exec = Jvm.exec) {cd : ClassFile.Cond} {x y : Int32} {o : Int} (hd : decode c.code pc = .ok (.if_icmp cd o, 3)) (hc : if_icmp.holds cd x y = false) (k : Steps p.tables e below (T.setTop (mkF m (pc + 3) Ls (S))) t) : Steps p.tables e below (T.setTop (mkF m pc Ls (.int y :: .int x :: S))) t := XS.icmpNo X.here hx rfl hd rfl hc k
theorem o_len (X : Stand p l e R s m args below meth c T locs cells slots) (hx : p.tables.exec = Jvm.exec) (hZ : Z.Warmed39 s.vm) (eT : T.heap = h) {ty : FieldType} {z : Int32} (A : Arr Z h a cl ty) (Sz : cl.slots.size = z.toNatClampNeg) (Nn : ¬ z < 0) (hd : decode c.code pc = .ok (.arraylength, 1))  (k : Steps p.tables e below (T.setTop (mkF m (pc + 1) Ls (.int z :: S))) t) : Steps p.tables e below (T.setTop (mkF m pc Ls (.ref a :: S))) t := X.arraylength hx (by rw [eT]; exact A.1) (State.isArrayOf_alike hZ.alike A.2.1) (g := mkF m pc Ls (.ref a :: S)) rfl rfl hd _ (by rw [len_of Sz Nn]; exact k)
theorem o_iaload (X : Stand p l e R s m args below meth c T locs cells slots) (hx : p.tables.exec = Jvm.exec) (hZ : Z.Warmed39 s.vm) (eT : T.heap = h) {j : Int32} {v : Int32} (A : Arr Z h a cl .int) (hin : ¬ (j < 0 ∨ cl.slots.size ≤ j.toNatClampNeg)) (hat : cl.slots[j.toNatClampNeg]? = some (.int v)) (hd : decode c.code pc = .ok (.iaload, 1))  (k : Steps p.tables e below (T.setTop (mkF m (pc + 1) Ls (.int v :: S))) t) : Steps p.tables e below (T.setTop (mkF m pc Ls (.int j :: .ref a :: S))) t := X.iaload hx (j := j) (v := .int v) (by rw [eT]; exact A.1) (State.isArrayOf_alike hZ.alike A.2.1) A.2.2 hin hat (g := mkF m pc Ls (.int j :: .ref a :: S)) rfl rfl hd _ k
theorem o_laload (X : Stand p l e R s m args below meth c T locs cells slots) (hx : p.tables.exec = Jvm.exec) (hZ : Z.Warmed39 s.vm) (eT : T.heap = h) {j : Int32} {v : Int64} (A : Arr Z h a cl .long) (hin : ¬ (j < 0 ∨ cl.slots.size ≤ j.toNatClampNeg)) (hat : cl.slots[j.toNatClampNeg]? = some (.long v)) (hd : decode c.code pc = .ok (.laload, 1))  (k : Steps p.tables e below (T.setTop (mkF m (pc + 1) Ls (.long v :: S))) t) : Steps p.tables e below (T.setTop (mkF m pc Ls (.int j :: .ref a :: S))) t := X.laload hx (j := j) (v := .long v) (by rw [eT]; exact A.1) (State.isArrayOf_alike hZ.alike A.2.1) A.2.2 hin hat (g := mkF m pc Ls (.int j :: .ref a :: S)) rfl rfl hd _ k
end Steps
theorem own_nar_byte (x : Int32) : nar .byte x.toInt8.toInt32 = x.toInt8.toInt32 := by
  show x.toInt8.toInt32.toInt8.toInt32 = _
  rw [Int8.toInt8_toInt32]
theorem own_nar_short (x : Int32) : nar .short x.toInt16.toInt32 = x.toInt16.toInt32 := by
  show x.toInt16.toInt32.toInt16.toInt32 = _
  rw [Int16.toInt16_toInt32]
theorem own_nar_char (x : Int32) : nar .char x.toUInt32.toUInt16.toUInt32.toInt32 = x.toUInt32.toUInt16.toUInt32.toInt32 := by
  have h := c_i2c x
  have h2 := c_i2c (x.toUInt32.toUInt16.toUInt32.toInt32)
  show (x.toUInt32.toUInt16.toUInt32.toInt32).toUInt32.toUInt16.toUInt32.toInt32 = _
  apply Int32.toInt_inj.mp
  omega

theorem own_selp {s : State} {args : Array Value} {y : MethodName} {n : Nat} (hins : (Cond.instantiable y.cls n).before args s = true) (hpriv : (Cond.privateMethod y).before args s = true) (hinst : (Cond.instanceMethod y).before args s = true) (hy : y.cls ≠ "java/lang/invoke/MethodHandle" ∧ y.cls ≠ "java/lang/invoke/VarHandle") : (Cond.selects y.cls y y).before args s = true := by
  obtain ⟨c, k, hc, hk, -, hniab, -, -⟩ := Cond.instantiable_spec hins
  exact selects_self_of_private hc hk (Bool.or_eq_false_iff.mp hniab).1 (Cond.privateMethod_at hpriv) hinst hy

theorem d5_0 : decode jdk_35_method_36_code 0 = .ok (.lload_n 0, 1) := by decide +kernel
theorem d5_1 : decode jdk_35_method_36_code 1 = .ok (.lload_n 0, 1) := by decide +kernel
theorem d5_2 : decode jdk_35_method_36_code 2 = .ok (.bipush 32, 2) := by decide +kernel
theorem d5_4 : decode jdk_35_method_36_code 4 = .ok (.lushr, 1) := by decide +kernel
theorem d5_5 : decode jdk_35_method_36_code 5 = .ok (.lxor, 1) := by decide +kernel
theorem d5_6 : decode jdk_35_method_36_code 6 = .ok (.l2i, 1) := by decide +kernel
theorem d5_7 : decode jdk_35_method_36_code 7 = .ok (.ireturn, 1) := by decide +kernel
theorem pn_5 : plainName "java/lang/Long" = true := by first | (simp [plainName, overriddenIn]; done) | decide +kernel
theorem ef_5 (m : MethodId) (x0 : Int64) : entryFrame m #[(.long x0)] 2 = mkF m 0 #[vj x0, .second] [] := by first | (simp [entryFrame, mkF, argsToLocals, Value.category]; done) | rfl
def f5 (q1 : Int64) : Int32 := ((q1 ^^^ ((q1.toUInt64 >>> ((32 : Int32) &&& 0x3f).toInt64.toUInt64).toInt64)).toInt32)
def Q5 (Z : State) (q1 : Int64) (h0 : Heap) (n0 : Nat) (v : Option Value) (h : Heap) (L : List Loc) : Prop := v = some (.int (f5 q1)) ∧ Fr n0 L ∧ h = h0
set_option maxRecDepth 65536 in
set_option maxHeartbeats 40000000 in
theorem rm5 (l : Launch) (Z : State) (a0 : Array Value) (hw : ∀ d ∈ tables_1, d.before a0 Z = true) (ws : List Jvm.Cond) (q1 : Int64) (h0 : Heap) (n0 : Nat) (Z0 : n0 ≤ h0.size) :
    MetFree l y_0 (head1 (Jvm.Cond.code y_0 jdk_35_method_36_code 2 (some .int) :: ws) ({ frames := 0, cells := 0, slots := 0, locals := 0 } : Room)) (fun a U => a = #[(.long q1)] ∧ Z.Warmed39 U.vm ∧ U.heap = h0) (fun _ _ _ _ _ => True) (fun _ U o U' => ∃ v L, o = .returned v ∧ Q5 Z q1 h0 n0 v U'.heap L ∧ FrameEnd U o U' L ({ frames := 0, cells := 0, slots := 0, locals := 0 } : Room).cells ({ frames := 0, cells := 0, slots := 0, locals := 0 } : Room).slots) := by
  refine MetFree.of_bodySF (plainFor_of_name pn_5) hisR ?_
  intro p e s m args below meth c s₁ Bd hml0 hP hK
  obtain ⟨rfl, hZ, hh⟩ := hP
  have hx := Bd.exec
  have hby := Bd.bytes
  have hml : c.maxLocals = 2 := hml0
  have hown : s.vm.findClass "java/lang/Long" = some m.cls := findClass_of_methodNamed Bd.named
  have hnm := (name_of_methodNamed Bd.named Bd.method).1
  have X0 : Stand p l e ({ frames := 0, cells := 0, slots := 0, locals := 0 } : Room) s m #[(.long q1)] below meth c s₁ [] 0 0 := Stand.of_body Bd
  have e0 : s₁.heap = h0 := by rw [← hh, Bd.state]; rfl
  have N0 := Fr.nil n0
  obtain ⟨F0, hF0⟩ : ∃ F : JFrame, F = entryFrame m #[(.long q1)] 2 := ⟨_, rfl⟩
  have pre0 : ∀ t, Steps p.tables e below (s₁.setTop F0) t → Steps p.tables e below (s₁.setTop (entryFrame m #[(.long q1)] 2)) t := fun t k => hF0 ▸ k
  have go0 : Go p e below s₁ F0 s₁ (mkF m 0 #[vj q1, .second] []) := fun t k => castTop (hF0.trans (ef_5 m q1)) k
  have go1 : Go p e below s₁ F0 s₁ (mkF m 7 #[vj q1, .second] [(.int ((q1 ^^^ ((q1.toUInt64 >>> ((32 : Int32) &&& 0x3f).toInt64.toUInt64).toInt64)).toInt32))]) := by
    intro t_ k_
    refine go0 t_ ?_
    refine o_lloadN X0 hx (hb hby d5_0) rfl ?_
    refine o_lloadN X0 hx (hb hby d5_1) rfl ?_
    refine o_bipush X0 hx (hb hby d5_2) (v := 32) rfl ?_
    refine o_lushr X0 hx (hb hby d5_4) ?_
    refine o_lxor X0 hx (hb hby d5_5) ?_
    refine o_l2i X0 hx (hb hby d5_6) ?_
    exact k_
  obtain ⟨fs, hr, hrun, hended, hW, hsame⟩ := X0.leave (v := some (.int ((q1 ^^^ ((q1.toUInt64 >>> ((32 : Int32) &&& 0x3f).toInt64.toUInt64).toInt64)).toInt32))) (fun h => by rw [Bd.returns] at h; cases h)
  refine ⟨_, _, pre0 _ (go1 _ ?_), hrun, hended, _, _, rfl, ?_, ⟨_, rfl⟩, hW, hsame.mono (by decide) (by decide)⟩
  · skip
    exact retI X0 hx Bd.returns (hb hby d5_7) hr
  · show Q5 Z q1 h0 n0 _ s₁.heap _
    rw [e0]
    exact ⟨(congrArg (fun z => some (Value.int z)) (show ((q1 ^^^ ((q1.toUInt64 >>> ((32 : Int32) &&& 0x3f).toInt64.toUInt64).toInt64)).toInt32) = f5 q1 from by unfold f5; rfl)), N0, rfl⟩

theorem d6_0 : decode prog_63_method_12_code 0 = .ok (.iload_n 0, 1) := by decide +kernel
theorem d6_1 : decode prog_63_method_12_code 1 = .ok (.ldc 63, 2) := by decide +kernel
theorem d6_3 : decode prog_63_method_12_code 3 = .ok (.imul, 1) := by decide +kernel
theorem d6_4 : decode prog_63_method_12_code 4 = .ok (.istore_n 2, 1) := by decide +kernel
theorem d6_5 : decode prog_63_method_12_code 5 = .ok (.iload_n 2, 1) := by decide +kernel
theorem d6_6 : decode prog_63_method_12_code 6 = .ok (.iload_n 2, 1) := by decide +kernel
theorem d6_7 : decode prog_63_method_12_code 7 = .ok (.bipush 16, 2) := by decide +kernel
theorem d6_9 : decode prog_63_method_12_code 9 = .ok (.iushr, 1) := by decide +kernel
theorem d6_10 : decode prog_63_method_12_code 10 = .ok (.ixor, 1) := by decide +kernel
theorem d6_11 : decode prog_63_method_12_code 11 = .ok (.iload_n 1, 1) := by decide +kernel
theorem d6_12 : decode prog_63_method_12_code 12 = .ok (.iand, 1) := by decide +kernel
theorem d6_13 : decode prog_63_method_12_code 13 = .ok (.ireturn, 1) := by decide +kernel
theorem pn_6 : plainName "com/example/grammar_game_solver/grammargamesolver/summary/NumberedSets" = true := by first | (simp [plainName, overriddenIn]; done) | decide +kernel
theorem ef_6 (m : MethodId) (x0 : Int32) (x1 : Int32) : entryFrame m #[(.int x0), (.int x1)] 3 = mkF m 0 #[vi x0, vi x1, .unset] [] := by first | (simp [entryFrame, mkF, argsToLocals, Value.category]; done) | rfl
def f6 (p1 : Int32) (p2 : Int32) : Int32 := (((p1 * (-1640531527 : Int32)) ^^^ (((p1 * (-1640531527 : Int32)).toUInt32 >>> ((16 : Int32) &&& 31).toUInt32).toInt32)) &&& p2)
def Q6 (Z : State) (p1 : Int32) (p2 : Int32) (h0 : Heap) (n0 : Nat) (v : Option Value) (h : Heap) (L : List Loc) : Prop := v = some (.int (f6 p1 p2)) ∧ Fr n0 L ∧ h = h0
set_option maxRecDepth 65536 in
set_option maxHeartbeats 40000000 in
theorem rm6 (l : Launch) (Z : State) (a0 : Array Value) (hw : ∀ d ∈ tables_1, d.before a0 Z = true) (ws : List Jvm.Cond) (p1 : Int32) (p2 : Int32) (h0 : Heap) (n0 : Nat) (Z0 : n0 ≤ h0.size) :
    MetFree l y_1 (head1 (Jvm.Cond.code y_1 prog_63_method_12_code 3 (some .int) :: ws) ({ frames := 0, cells := 0, slots := 0, locals := 0 } : Room)) (fun a U => a = #[(.int p1), (.int p2)] ∧ Z.Warmed39 U.vm ∧ U.heap = h0) (fun _ _ _ _ _ => True) (fun _ U o U' => ∃ v L, o = .returned v ∧ Q6 Z p1 p2 h0 n0 v U'.heap L ∧ FrameEnd U o U' L ({ frames := 0, cells := 0, slots := 0, locals := 0 } : Room).cells ({ frames := 0, cells := 0, slots := 0, locals := 0 } : Room).slots) := by
  refine MetFree.of_bodySF (plainFor_of_name pn_6) hisR ?_
  intro p e s m args below meth c s₁ Bd hml0 hP hK
  obtain ⟨rfl, hZ, hh⟩ := hP
  have hx := Bd.exec
  have hby := Bd.bytes
  have hml : c.maxLocals = 3 := hml0
  have hown : s.vm.findClass "com/example/grammar_game_solver/grammargamesolver/summary/NumberedSets" = some m.cls := findClass_of_methodNamed Bd.named
  have hnm := (name_of_methodNamed Bd.named Bd.method).1
  have X0 : Stand p l e ({ frames := 0, cells := 0, slots := 0, locals := 0 } : Room) s m #[(.int p1), (.int p2)] below meth c s₁ [] 0 0 := Stand.of_body Bd
  have e0 : s₁.heap = h0 := by rw [← hh, Bd.state]; rfl
  have N0 := Fr.nil n0
  obtain ⟨F0, hF0⟩ : ∃ F : JFrame, F = entryFrame m #[(.int p1), (.int p2)] 3 := ⟨_, rfl⟩
  have pre0 : ∀ t, Steps p.tables e below (s₁.setTop F0) t → Steps p.tables e below (s₁.setTop (entryFrame m #[(.int p1), (.int p2)] 3)) t := fun t k => hF0 ▸ k
  have go0 : Go p e below s₁ F0 s₁ (mkF m 0 #[vi p1, vi p2, .unset] []) := fun t k => castTop (hF0.trans (ef_6 m p1 p2)) k
  have go1 : Go p e below s₁ F0 s₁ (mkF m 13 #[vi p1, vi p2, vi (p1 * (-1640531527 : Int32))] [(.int (((p1 * (-1640531527 : Int32)) ^^^ (((p1 * (-1640531527 : Int32)).toUInt32 >>> ((16 : Int32) &&& 31).toUInt32).toInt32)) &&& p2))]) := by
    intro t_ k_
    refine go0 t_ ?_
    refine o_iloadN X0 hx (hb hby d6_0) rfl ?_
    refine o_ldc X0 hx hown (mvT hZ (own_w hw 35 rfl)) (hb hby d6_1) ?_
    refine o_imul X0 hx (hb hby d6_3) ?_
    refine o_istoreN X0 hx (hb hby d6_4) (L' := #[vi p1, vi p2, vi (p1 * (-1640531527 : Int32))]) rfl ?_
    refine o_iloadN X0 hx (hb hby d6_5) rfl ?_
    refine o_iloadN X0 hx (hb hby d6_6) rfl ?_
    refine o_bipush X0 hx (hb hby d6_7) (v := 16) rfl ?_
    refine o_iushr X0 hx (hb hby d6_9) ?_
    refine o_ixor X0 hx (hb hby d6_10) ?_
    refine o_iloadN X0 hx (hb hby d6_11) rfl ?_
    refine o_iand X0 hx (hb hby d6_12) ?_
    exact k_
  obtain ⟨fs, hr, hrun, hended, hW, hsame⟩ := X0.leave (v := some (.int (((p1 * (-1640531527 : Int32)) ^^^ (((p1 * (-1640531527 : Int32)).toUInt32 >>> ((16 : Int32) &&& 31).toUInt32).toInt32)) &&& p2))) (fun h => by rw [Bd.returns] at h; cases h)
  refine ⟨_, _, pre0 _ (go1 _ ?_), hrun, hended, _, _, rfl, ?_, ⟨_, rfl⟩, hW, hsame.mono (by decide) (by decide)⟩
  · skip
    exact retI X0 hx Bd.returns (hb hby d6_13) hr
  · show Q6 Z p1 p2 h0 n0 _ s₁.heap _
    rw [e0]
    exact ⟨(congrArg (fun z => some (Value.int z)) (show (((p1 * (-1640531527 : Int32)) ^^^ (((p1 * (-1640531527 : Int32)).toUInt32 >>> ((16 : Int32) &&& 31).toUInt32).toInt32)) &&& p2) = f6 p1 p2 from by unfold f6; rfl)), N0, rfl⟩


theorem d1_0 : decode prog_63_method_1_code 0 = .ok (.aload_n 0, 1) := by decide +kernel
theorem d1_1 : decode prog_63_method_1_code 1 = .ok (.invokespecial 1, 3) := by decide +kernel
theorem d1_4 : decode prog_63_method_1_code 4 = .ok (.aload_n 0, 1) := by decide +kernel
theorem d1_5 : decode prog_63_method_1_code 5 = .ok (.iload_n 1, 1) := by decide +kernel
theorem d1_6 : decode prog_63_method_1_code 6 = .ok (.putfield 7, 3) := by decide +kernel
theorem d1_9 : decode prog_63_method_1_code 9 = .ok (.aload_n 0, 1) := by decide +kernel
theorem d1_10 : decode prog_63_method_1_code 10 = .ok (.bipush 16, 2) := by decide +kernel
theorem d1_12 : decode prog_63_method_1_code 12 = .ok (.iload_n 1, 1) := by decide +kernel
theorem d1_13 : decode prog_63_method_1_code 13 = .ok (.imul, 1) := by decide +kernel
theorem d1_14 : decode prog_63_method_1_code 14 = .ok (.newarray .long, 2) := by decide +kernel
theorem d1_16 : decode prog_63_method_1_code 16 = .ok (.putfield 13, 3) := by decide +kernel
theorem d1_19 : decode prog_63_method_1_code 19 = .ok (.aload_n 0, 1) := by decide +kernel
theorem d1_20 : decode prog_63_method_1_code 20 = .ok (.bipush 16, 2) := by decide +kernel
theorem d1_22 : decode prog_63_method_1_code 22 = .ok (.newarray .int, 2) := by decide +kernel
theorem d1_24 : decode prog_63_method_1_code 24 = .ok (.putfield 17, 3) := by decide +kernel
theorem d1_27 : decode prog_63_method_1_code 27 = .ok (.aload_n 0, 1) := by decide +kernel
theorem d1_28 : decode prog_63_method_1_code 28 = .ok (.bipush 32, 2) := by decide +kernel
theorem d1_30 : decode prog_63_method_1_code 30 = .ok (.newarray .int, 2) := by decide +kernel
theorem d1_32 : decode prog_63_method_1_code 32 = .ok (.putfield 21, 3) := by decide +kernel
theorem d1_35 : decode prog_63_method_1_code 35 = .ok (.return_, 1) := by decide +kernel
theorem pn_1_w2 : plainName "com/example/grammar_game_solver/grammargamesolver/summary/NumberedSets" = true := by first | (simp [plainName, overriddenIn]; done) | decide +kernel
theorem ef_1_w2 (m : MethodId) (x0 : Addr) : entryFrame m #[(.ref x0), (.int (2 : Int32))] 2 = mkF m 0 #[vr x0, vi (2 : Int32)] [] := by first | (simp [entryFrame, mkF, argsToLocals, Value.category]; done) | rfl
def Q1_w2 (Z : State) (a1 : Addr) (h0 : Heap) (n0 : Nat) (v : Option Value) (h : Heap) (L : List Loc) : Prop := ∃ bw : Addr, ∃ bh : Addr, ∃ bs : Addr, ∃ kw : ClassId, ∃ kh : ClassId, ∃ ks : ClassId, v = none ∧ Fr n0 L ∧ Keep h0 h [a1] ∧ h0.size ≤ bw ∧ h0.size ≤ bh ∧ h0.size ≤ bs ∧ bw ≠ bh ∧ bw ≠ bs ∧ bh ≠ bs ∧ Fld Z h a1 c_0 "width" "I" (.int (2 : Int32)) ∧ Fld Z h a1 c_0 "words" "[J" (.ref bw) ∧ Fld Z h a1 c_0 "hashes" "[I" (.ref bh) ∧ Fld Z h a1 c_0 "slots" "[I" (.ref bs) ∧ Fld Z h a1 c_0 "count" "I" (.int (0 : Int32)) ∧ Arv Z h bw kw .long (32 : Int32) (own_zl 32) (.long (0 : Int64)) ∧ Arv Z h bh kh .int (16 : Int32) (own_zi 16) (.int (0 : Int32)) ∧ Arv Z h bs ks .int (32 : Int32) (own_zi 32) (.int (0 : Int32))
set_option maxRecDepth 65536 in
set_option maxHeartbeats 40000000 in
theorem rm1_w2 (l : Launch) (Z : State) (a0 : Array Value) (hw : ∀ d ∈ tables_1, d.before a0 Z = true) (ws : List Jvm.Cond) (a1 : Addr) (h0 : Heap) (n0 : Nat) (Z0 : n0 ≤ h0.size) (E0 : Exa Z h0 a1 c_0) (F1 : Fld Z h0 a1 c_0 "width" "I" (.int (0 : Int32))) (F2 : Fld Z h0 a1 c_0 "words" "[J" .null) (F3 : Fld Z h0 a1 c_0 "hashes" "[I" .null) (F4 : Fld Z h0 a1 c_0 "slots" "[I" .null) (F5 : Fld Z h0 a1 c_0 "count" "I" (.int (0 : Int32))) (g1 : n0 ≤ a1) :
    MetFree l y_2 (head1 (Jvm.Cond.code y_2 prog_63_method_1_code 2 none :: ws) ({ frames := 1, cells := 3, slots := 80, locals := 12 } : Room)) (fun a U => a = #[(.ref a1), (.int (2 : Int32))] ∧ Z.Warmed39 U.vm ∧ U.heap = h0) (fun _ _ _ _ _ => True) (fun _ U o U' => ∃ v L, o = .returned v ∧ Q1_w2 Z a1 h0 n0 v U'.heap L ∧ FrameEnd U o U' L ({ frames := 1, cells := 3, slots := 80, locals := 12 } : Room).cells ({ frames := 1, cells := 3, slots := 80, locals := 12 } : Room).slots) := by
  refine MetFree.of_bodySF (plainFor_of_name pn_1_w2) hisR ?_
  intro p e s m args below meth c s₁ Bd hml0 hP hK
  obtain ⟨rfl, hZ, hh⟩ := hP
  have hx := Bd.exec
  have hby := Bd.bytes
  have hml : c.maxLocals = 2 := hml0
  have hown : s.vm.findClass "com/example/grammar_game_solver/grammargamesolver/summary/NumberedSets" = some m.cls := findClass_of_methodNamed Bd.named
  have hnm := (name_of_methodNamed Bd.named Bd.method).1
  have X0 : Stand p l e ({ frames := 1, cells := 3, slots := 80, locals := 12 } : Room) s m #[(.ref a1), (.int (2 : Int32))] below meth c s₁ [] 0 0 := Stand.of_body Bd
  have e0 : s₁.heap = h0 := by rw [← hh, Bd.state]; rfl
  have N0 := Fr.nil n0
  have K0 : Keep h0 h0 [a1] := Keep.refl h0 [a1]
  obtain ⟨F0, hF0⟩ : ∃ F : JFrame, F = entryFrame m #[(.ref a1), (.int (2 : Int32))] 2 := ⟨_, rfl⟩
  have pre0 : ∀ t, Steps p.tables e below (s₁.setTop F0) t → Steps p.tables e below (s₁.setTop (entryFrame m #[(.ref a1), (.int (2 : Int32))] 2)) t := fun t k => hF0 ▸ k
  have go0 : Go p e below s₁ F0 s₁ (mkF m 0 #[vr a1, vi (2 : Int32)] []) := fun t k => castTop (hF0.trans (ef_1_w2 m a1)) k
  have go1 : Go p e below s₁ F0 s₁ (mkF m 1 #[vr a1, vi (2 : Int32)] [(.ref a1)]) := by
    intro t_ k_
    refine go0 t_ ?_
    refine o_aloadN X0 hx (hb hby d1_0) rfl rfl ?_
    exact k_
  obtain ⟨T2, X2, e2, st2⟩ := initO X0 hx hZ hown (own_w hw 6 rfl) (own_w hw 7 rfl) (own_w hw 8 rfl) e0 (g := (mkF m 1 #[vr a1, vi (2 : Int32)] [(.ref a1)])) rfl (by rw [hml]; rfl) rfl (hb hby d1_1) (by decide) (W := 0) (by show 2 * 0 + _ ≤ _; exact Nat.le_of_eq rfl) (by decide)
  have go3 : Go p e below s₁ F0 T2 (mkF m 4 #[vr a1, vi (2 : Int32)] []) := fun t_ k_ => go1 t_ (st2 t_ k_)
  have go4 : Go p e below s₁ F0 T2 (mkF m 6 #[vr a1, vi (2 : Int32)] [(.int (2 : Int32)), (.ref a1)]) := by
    intro t_ k_
    refine go3 t_ ?_
    refine o_aloadN X2 hx (hb hby d1_4) rfl rfl ?_
    refine o_iloadN X2 hx (hb hby d1_5) rfl ?_
    exact k_
  obtain ⟨T5, h5, X5, e5, W5, st5⟩ := putF X2 hx hZ hown (host := "") (Or.inl (own_w hw 9 rfl)) Via.refl e2 F1 E0 (Or.inr ⟨(own_w hw 10 rfl), rfl, hnm⟩) (own_w hw 1 rfl) (ty := .int) (by decide) rfl rfl (g := (mkF m 6 #[vr a1, vi (2 : Int32)] [(.int (2 : Int32)), (.ref a1)])) rfl rfl (hb hby d1_6)
  have Fw5 : Fld Z h5 a1 c_0 "width" "I" (.int (2 : Int32)) := Fld.same W5 F1
  have K6 : Keep h0 h5 [a1] := K0.wr W5 (Or.inl (List.mem_of_getElem? (i := 0) rfl))
  have Z6 : n0 ≤ h5.size := Nat.le_trans Z0 (Keep.of_wr W5).1
  have N5 := Fr.snoc X5 N0 g1
  have go7 : Go p e below s₁ F0 T5 (mkF m 9 #[vr a1, vi (2 : Int32)] []) := fun t_ k_ => go4 t_ (st5 t_ k_)
  have go8 : Go p e below s₁ F0 T5 (mkF m 14 #[vr a1, vi (2 : Int32)] [(.int (32 : Int32)), (.ref a1)]) := by
    intro t_ k_
    refine go7 t_ ?_
    refine o_aloadN X5 hx (hb hby d1_9) rfl rfl ?_
    refine o_bipush X5 hx (hb hby d1_10) (v := 16) rfl ?_
    refine o_iloadN X5 hx (hb hby d1_12) rfl ?_
    refine o_imulE X5 hx (hb hby d1_13) (v := 32) rfl ?_
    exact k_
  obtain ⟨T9, h9, k9, X9, e9, E9, A9, st9⟩ := newP X5 hx hZ (own_w hw 11 rfl) e5 (g := (mkF m 14 #[vr a1, vi (2 : Int32)] [(.int (32 : Int32)), (.ref a1)])) rfl (hb hby d1_14) rfl (by decide) (cap := 32) (by decide) (by decide) (by decide) (by decide)
  obtain ⟨b9, gz9⟩ : ∃ z, z = h5.size := ⟨_, rfl⟩
  rw [← gz9] at A9 st9
  have F10 : Exa Z h5 a1 c_0 := (E0.wr W5)
  have ne11 : a1 ≠ b9 := Nat.ne_of_lt (Nat.lt_of_lt_of_le F10.lt (Nat.le_of_eq gz9.symm))
  have g_b9 : n0 ≤ b9 := Nat.le_trans Z6 (Nat.le_of_eq gz9.symm)
  have sz_b9 : h0.size ≤ b9 := Nat.le_trans K6.1 (Nat.le_of_eq gz9.symm)
  have K12 : Keep h0 h9 [a1] := K6.ext E9
  have Z12 : n0 ≤ h9.size := Nat.le_trans Z6 E9.1
  have V9 : Arv Z h9 b9 k9 .long (32 : Int32) (own_zl 32) (.long (0 : Int64)) := (Arv.new A9 (by decide)).pad (pad_rep [] (.long (0 : Int64)) 32)
  have go13 : Go p e below s₁ F0 T9 (mkF m 16 #[vr a1, vi (2 : Int32)] [(.ref b9), (.ref a1)]) := fun t_ k_ => go8 t_ (st9 t_ k_)
  have F14 : Exa Z h9 a1 c_0 := (F10.ext E9)
  have F15 : Fld Z h9 a1 c_0 "words" "[J" .null := ((F2.other W5 (Or.inr (slot_ne (Or.inl (own_w hw 13 rfl)) (Or.inr (own_w hw 10 rfl)) (by decide) (t := (.array .long)) (t' := .int) (by decide) (by decide)))).ext E9)
  obtain ⟨T16, h16, X16, e16, W16, st16⟩ := putF X9 hx hZ hown (host := "") (Or.inl (own_w hw 12 rfl)) Via.refl e9 F15 F14 (Or.inl (own_w hw 13 rfl)) (own_w hw 1 rfl) (ty := (.array .long)) (by decide) rfl rfl (g := (mkF m 16 #[vr a1, vi (2 : Int32)] [(.ref b9), (.ref a1)])) rfl rfl (hb hby d1_16)
  have Fw16 : Fld Z h16 a1 c_0 "words" "[J" (.ref b9) := Fld.same W16 F15
  have K17 : Keep h0 h16 [a1] := K12.wr W16 (Or.inl (List.mem_of_getElem? (i := 0) rfl))
  have Z17 : n0 ≤ h16.size := Nat.le_trans Z12 (Keep.of_wr W16).1
  have N16 := Fr.snoc X16 N5 g1
  have go18 : Go p e below s₁ F0 T16 (mkF m 19 #[vr a1, vi (2 : Int32)] []) := fun t_ k_ => go13 t_ (st16 t_ k_)
  have go19 : Go p e below s₁ F0 T16 (mkF m 22 #[vr a1, vi (2 : Int32)] [(.int (16 : Int32)), (.ref a1)]) := by
    intro t_ k_
    refine go18 t_ ?_
    refine o_aloadN X16 hx (hb hby d1_19) rfl rfl ?_
    refine o_bipush X16 hx (hb hby d1_20) (v := 16) rfl ?_
    exact k_
  obtain ⟨T20, h20, k20, X20, e20, E20, A20, st20⟩ := newP X16 hx hZ (own_w hw 14 rfl) e16 (g := (mkF m 22 #[vr a1, vi (2 : Int32)] [(.int (16 : Int32)), (.ref a1)])) rfl (hb hby d1_22) rfl (by decide) (cap := 16) (by decide) (by decide) (by decide) (by decide)
  obtain ⟨b20, gz20⟩ : ∃ z, z = h16.size := ⟨_, rfl⟩
  rw [← gz20] at A20 st20
  have F21 : Exa Z h16 a1 c_0 := (F14.wr W16)
  have ne22 : a1 ≠ b20 := Nat.ne_of_lt (Nat.lt_of_lt_of_le F21.lt (Nat.le_of_eq gz20.symm))
  have F23 : Arv Z h16 b9 k9 .long (32 : Int32) (own_zl 32) (.long (0 : Int64)) := (V9.other W16 (Ne.symm ne11))
  have ne24 : b9 ≠ b20 := Nat.ne_of_lt (Nat.lt_of_lt_of_le F23.lt (Nat.le_of_eq gz20.symm))
  have g_b20 : n0 ≤ b20 := Nat.le_trans Z17 (Nat.le_of_eq gz20.symm)
  have sz_b20 : h0.size ≤ b20 := Nat.le_trans K17.1 (Nat.le_of_eq gz20.symm)
  have K25 : Keep h0 h20 [a1] := K17.ext E20
  have Z25 : n0 ≤ h20.size := Nat.le_trans Z17 E20.1
  have V20 : Arv Z h20 b20 k20 .int (16 : Int32) (own_zi 16) (.int (0 : Int32)) := (Arv.new A20 (by decide)).pad (pad_rep [] (.int (0 : Int32)) 16)
  have go26 : Go p e below s₁ F0 T20 (mkF m 24 #[vr a1, vi (2 : Int32)] [(.ref b20), (.ref a1)]) := fun t_ k_ => go19 t_ (st20 t_ k_)
  have F27 : Exa Z h20 a1 c_0 := (F21.ext E20)
  have F28 : Fld Z h20 a1 c_0 "hashes" "[I" .null := ((((F3.other W5 (Or.inr (slot_ne (Or.inl (own_w hw 16 rfl)) (Or.inr (own_w hw 10 rfl)) (by decide) (t := (.array .int)) (t' := .int) (by decide) (by decide)))).ext E9).other W16 (Or.inr (slot_ne (Or.inl (own_w hw 16 rfl)) (Or.inl (own_w hw 13 rfl)) (by decide) (t := (.array .int)) (t' := (.array .long)) (by decide) (by decide)))).ext E20)
  obtain ⟨T29, h29, X29, e29, W29, st29⟩ := putF X20 hx hZ hown (host := "") (Or.inl (own_w hw 15 rfl)) Via.refl e20 F28 F27 (Or.inl (own_w hw 16 rfl)) (own_w hw 1 rfl) (ty := (.array .int)) (by decide) rfl rfl (g := (mkF m 24 #[vr a1, vi (2 : Int32)] [(.ref b20), (.ref a1)])) rfl rfl (hb hby d1_24)
  have Fw29 : Fld Z h29 a1 c_0 "hashes" "[I" (.ref b20) := Fld.same W29 F28
  have K30 : Keep h0 h29 [a1] := K25.wr W29 (Or.inl (List.mem_of_getElem? (i := 0) rfl))
  have Z30 : n0 ≤ h29.size := Nat.le_trans Z25 (Keep.of_wr W29).1
  have N29 := Fr.snoc X29 N16 g1
  have go31 : Go p e below s₁ F0 T29 (mkF m 27 #[vr a1, vi (2 : Int32)] []) := fun t_ k_ => go26 t_ (st29 t_ k_)
  have go32 : Go p e below s₁ F0 T29 (mkF m 30 #[vr a1, vi (2 : Int32)] [(.int (32 : Int32)), (.ref a1)]) := by
    intro t_ k_
    refine go31 t_ ?_
    refine o_aloadN X29 hx (hb hby d1_27) rfl rfl ?_
    refine o_bipush X29 hx (hb hby d1_28) (v := 32) rfl ?_
    exact k_
  obtain ⟨T33, h33, k33, X33, e33, E33, A33, st33⟩ := newP X29 hx hZ (own_w hw 14 rfl) e29 (g := (mkF m 30 #[vr a1, vi (2 : Int32)] [(.int (32 : Int32)), (.ref a1)])) rfl (hb hby d1_30) rfl (by decide) (cap := 32) (by decide) (by decide) (by decide) (by decide)
  obtain ⟨b33, gz33⟩ : ∃ z, z = h29.size := ⟨_, rfl⟩
  rw [← gz33] at A33 st33
  have F34 : Exa Z h29 a1 c_0 := (F27.wr W29)
  have ne35 : a1 ≠ b33 := Nat.ne_of_lt (Nat.lt_of_lt_of_le F34.lt (Nat.le_of_eq gz33.symm))
  have F36 : Arv Z h29 b9 k9 .long (32 : Int32) (own_zl 32) (.long (0 : Int64)) := ((F23.ext E20).other W29 (Ne.symm ne11))
  have ne37 : b9 ≠ b33 := Nat.ne_of_lt (Nat.lt_of_lt_of_le F36.lt (Nat.le_of_eq gz33.symm))
  have F38 : Arv Z h29 b20 k20 .int (16 : Int32) (own_zi 16) (.int (0 : Int32)) := (V20.other W29 (Ne.symm ne22))
  have ne39 : b20 ≠ b33 := Nat.ne_of_lt (Nat.lt_of_lt_of_le F38.lt (Nat.le_of_eq gz33.symm))
  have g_b33 : n0 ≤ b33 := Nat.le_trans Z30 (Nat.le_of_eq gz33.symm)
  have sz_b33 : h0.size ≤ b33 := Nat.le_trans K30.1 (Nat.le_of_eq gz33.symm)
  have K40 : Keep h0 h33 [a1] := K30.ext E33
  have Z40 : n0 ≤ h33.size := Nat.le_trans Z30 E33.1
  have V33 : Arv Z h33 b33 k33 .int (32 : Int32) (own_zi 32) (.int (0 : Int32)) := (Arv.new A33 (by decide)).pad (pad_rep [] (.int (0 : Int32)) 32)
  have go41 : Go p e below s₁ F0 T33 (mkF m 32 #[vr a1, vi (2 : Int32)] [(.ref b33), (.ref a1)]) := fun t_ k_ => go32 t_ (st33 t_ k_)
  have F42 : Exa Z h33 a1 c_0 := (F34.ext E33)
  have F43 : Fld Z h33 a1 c_0 "slots" "[I" .null := ((((((F4.other W5 (Or.inr (slot_ne (Or.inl (own_w hw 18 rfl)) (Or.inr (own_w hw 10 rfl)) (by decide) (t := (.array .int)) (t' := .int) (by decide) (by decide)))).ext E9).other W16 (Or.inr (slot_ne (Or.inl (own_w hw 18 rfl)) (Or.inl (own_w hw 13 rfl)) (by decide) (t := (.array .int)) (t' := (.array .long)) (by decide) (by decide)))).ext E20).other W29 (Or.inr (slot_ne (Or.inl (own_w hw 18 rfl)) (Or.inl (own_w hw 16 rfl)) (by decide) (t := (.array .int)) (t' := (.array .int)) (by decide) (by decide)))).ext E33)
  obtain ⟨T44, h44, X44, e44, W44, st44⟩ := putF X33 hx hZ hown (host := "") (Or.inl (own_w hw 17 rfl)) Via.refl e33 F43 F42 (Or.inl (own_w hw 18 rfl)) (own_w hw 1 rfl) (ty := (.array .int)) (by decide) rfl rfl (g := (mkF m 32 #[vr a1, vi (2 : Int32)] [(.ref b33), (.ref a1)])) rfl rfl (hb hby d1_32)
  have Fw44 : Fld Z h44 a1 c_0 "slots" "[I" (.ref b33) := Fld.same W44 F43
  have K45 : Keep h0 h44 [a1] := K40.wr W44 (Or.inl (List.mem_of_getElem? (i := 0) rfl))
  have Z45 : n0 ≤ h44.size := Nat.le_trans Z40 (Keep.of_wr W44).1
  have N44 := Fr.snoc X44 N29 g1
  have go46 : Go p e below s₁ F0 T44 (mkF m 35 #[vr a1, vi (2 : Int32)] []) := fun t_ k_ => go41 t_ (st44 t_ k_)
  obtain ⟨fs, hr, hrun, hended, hW, hsame⟩ := X44.leave (v := none) (fun _ => rfl)
  refine ⟨_, _, pre0 _ (go46 _ ?_), hrun, hended, _, _, rfl, ?_, ⟨_, rfl⟩, hW, hsame.mono (by decide) (by decide)⟩
  · skip
    exact X44.returnOut hx Bd.returns (hb hby d1_35) hr
  · show Q1_w2 Z a1 h0 n0 _ T44.heap _
    rw [e44]
    have F47 : Fld Z h44 a1 c_0 "width" "I" (.int (2 : Int32)) := ((((((Fw5.ext E9).other W16 (Or.inr (slot_ne (Or.inr (own_w hw 10 rfl)) (Or.inl (own_w hw 13 rfl)) (by decide) (t := .int) (t' := (.array .long)) (by decide) (by decide)))).ext E20).other W29 (Or.inr (slot_ne (Or.inr (own_w hw 10 rfl)) (Or.inl (own_w hw 16 rfl)) (by decide) (t := .int) (t' := (.array .int)) (by decide) (by decide)))).ext E33).other W44 (Or.inr (slot_ne (Or.inr (own_w hw 10 rfl)) (Or.inl (own_w hw 18 rfl)) (by decide) (t := .int) (t' := (.array .int)) (by decide) (by decide))))
    have F48 : Fld Z h44 a1 c_0 "words" "[J" (.ref b9) := ((((Fw16.ext E20).other W29 (Or.inr (slot_ne (Or.inl (own_w hw 13 rfl)) (Or.inl (own_w hw 16 rfl)) (by decide) (t := (.array .long)) (t' := (.array .int)) (by decide) (by decide)))).ext E33).other W44 (Or.inr (slot_ne (Or.inl (own_w hw 13 rfl)) (Or.inl (own_w hw 18 rfl)) (by decide) (t := (.array .long)) (t' := (.array .int)) (by decide) (by decide))))
    have F49 : Fld Z h44 a1 c_0 "hashes" "[I" (.ref b20) := ((Fw29.ext E33).other W44 (Or.inr (slot_ne (Or.inl (own_w hw 16 rfl)) (Or.inl (own_w hw 18 rfl)) (by decide) (t := (.array .int)) (t' := (.array .int)) (by decide) (by decide))))
    have F50 : Fld Z h44 a1 c_0 "count" "I" (.int (0 : Int32)) := (((((((F5.other W5 (Or.inr (slot_ne (Or.inl (own_w hw 37 rfl)) (Or.inr (own_w hw 10 rfl)) (by decide) (t := .int) (t' := .int) (by decide) (by decide)))).ext E9).other W16 (Or.inr (slot_ne (Or.inl (own_w hw 37 rfl)) (Or.inl (own_w hw 13 rfl)) (by decide) (t := .int) (t' := (.array .long)) (by decide) (by decide)))).ext E20).other W29 (Or.inr (slot_ne (Or.inl (own_w hw 37 rfl)) (Or.inl (own_w hw 16 rfl)) (by decide) (t := .int) (t' := (.array .int)) (by decide) (by decide)))).ext E33).other W44 (Or.inr (slot_ne (Or.inl (own_w hw 37 rfl)) (Or.inl (own_w hw 18 rfl)) (by decide) (t := .int) (t' := (.array .int)) (by decide) (by decide))))
    have F51 : Arv Z h44 b9 k9 .long (32 : Int32) (own_zl 32) (.long (0 : Int64)) := ((F36.ext E33).other W44 (Ne.symm ne11))
    have F52 : Arv Z h44 b20 k20 .int (16 : Int32) (own_zi 16) (.int (0 : Int32)) := ((F38.ext E33).other W44 (Ne.symm ne22))
    have F53 : Arv Z h44 b33 k33 .int (32 : Int32) (own_zi 32) (.int (0 : Int32)) := (V33.other W44 (Ne.symm ne35))
    exact ⟨b9, b20, b33, k9, k20, k33, rfl, N44, K45, sz_b9, sz_b20, sz_b33, ne24, ne37, ne39, F47, F48, F49, Fw44, F50, F51, F52, F53⟩


def own_sl (t : Int32) : List Value := (own_zi 32).set t.toNatClampNeg (.int (1 : Int32))
theorem own_z (n : Nat) : (own_zi 32).getD n (.int (0 : Int32)) = .int (0 : Int32) := by
  rw [List.getD_eq_getElem?_getD, List.getElem?_replicate]; split <;> rfl
theorem own_in {h t : Int32} (e : t = (f6 h (31 : Int32))) : ¬ t < 0 ∧ t < (32 : Int32) := by
  subst e; unfold f6
  have q : ∀ x : Int32, (x &&& (31 : Int32)).toInt = x.toInt % 32 := fun x => c_mask x 31 5 (by decide) (by decide)
  simp only [Int32.lt_iff_toInt_lt, q, show (0 : Int32).toInt = 0 from rfl, show (32 : Int32).toInt = 32 from rfl]
  omega
theorem own_lz {h t : Int32} (e : t = (f6 h (31 : Int32))) : t.toNatClampNeg < (own_zi 32).length := by
  have q := own_in e
  rw [List.length_replicate]
  simp only [Int32.lt_iff_toInt_lt, show (0 : Int32).toInt = 0 from rfl, show (32 : Int32).toInt = 32 from rfl, Int32.toNatClampNeg] at *
  omega

theorem own_in2 {x t : Int32} (e : t = (x &&& (31 : Int32))) : ¬ t < 0 ∧ t < (32 : Int32) := by
  subst e
  have q : (x &&& (31 : Int32)).toInt = x.toInt % 32 := c_mask x 31 5 (by decide) (by decide)
  simp only [Int32.lt_iff_toInt_lt, q, show (0 : Int32).toInt = 0 from rfl, show (32 : Int32).toInt = 32 from rfl]
  omega
theorem own_lt32 {t : Int32} (q : ¬ t < 0 ∧ t < (32 : Int32)) : t.toNatClampNeg < 32 := by
  simp only [Int32.lt_iff_toInt_lt, show (0 : Int32).toInt = 0 from rfl, show (32 : Int32).toInt = 32 from rfl, Int32.toNatClampNeg] at *
  omega
theorem own_ls {t sl : Int32} (q : ¬ t < 0 ∧ t < (32 : Int32)) : t.toNatClampNeg < (own_sl sl).length := by
  unfold own_sl
  rw [List.length_set, List.length_replicate]
  exact own_lt32 q
theorem own_hit {t sl : Int32} (q : ¬ sl < 0 ∧ sl < (32 : Int32)) (e : t = sl) : (own_sl sl).getD t.toNatClampNeg (.int (0 : Int32)) = .int (1 : Int32) := by
  subst e
  unfold own_sl
  rw [List.getD_eq_getElem?_getD, List.getElem?_set_self (by rw [List.length_replicate]; exact own_lt32 q)]
  rfl
theorem own_miss {t sl : Int32} (q1 : ¬ t < 0 ∧ t < (32 : Int32)) (q : ¬ sl < 0 ∧ sl < (32 : Int32)) (e : ¬ t = sl) : (own_sl sl).getD t.toNatClampNeg (.int (0 : Int32)) = .int (0 : Int32) := by
  unfold own_sl
  have ne : sl.toNatClampNeg ≠ t.toNatClampNeg := by
    intro z
    apply e
    apply Int32.toInt_inj.mp
    simp only [Int32.lt_iff_toInt_lt, show (0 : Int32).toInt = 0 from rfl, show (32 : Int32).toInt = 32 from rfl, Int32.toNatClampNeg] at *
    omega
  rw [List.getD_eq_getElem?_getD, List.getElem?_set_ne ne, ← List.getD_eq_getElem?_getD]
  exact own_z _
theorem own_next {t t2 sl : Int32} (q : ¬ sl < 0 ∧ sl < (32 : Int32)) (e : t = sl) (h : t2 = ((t + (1 : Int32)) &&& (31 : Int32))) : ¬ t2 = sl := by
  subst e
  intro z
  have a : ((t + (1 : Int32)) &&& (31 : Int32)).toInt = (t + (1 : Int32)).toInt % 32 := c_mask _ 31 5 (by decide) (by decide)
  have b := c_iadd t (1 : Int32)
  rw [← h, z] at a
  have := (t + (1 : Int32)).toInt_lt; have := (t + (1 : Int32)).le_toInt
  simp only [Int32.lt_iff_toInt_lt, show (0 : Int32).toInt = 0 from rfl, show (32 : Int32).toInt = 32 from rfl, show (1 : Int32).toInt = 1 from rfl] at *
  omega

theorem d4_0 : decode prog_63_method_6_code 0 = .ok (.iconst 1, 1) := by decide +kernel
theorem d4_1 : decode prog_63_method_6_code 1 = .ok (.istore_n 3, 1) := by decide +kernel
theorem d4_2 : decode prog_63_method_6_code 2 = .ok (.iconst 0, 1) := by decide +kernel
theorem d4_3 : decode prog_63_method_6_code 3 = .ok (.istore 4, 2) := by decide +kernel
theorem d4_5 : decode prog_63_method_6_code 5 = .ok (.iload 4, 2) := by decide +kernel
theorem d4_7 : decode prog_63_method_6_code 7 = .ok (.aload_n 0, 1) := by decide +kernel
theorem d4_8 : decode prog_63_method_6_code 8 = .ok (.getfield 7, 3) := by decide +kernel
theorem d4_11 : decode prog_63_method_6_code 11 = .ok (.if_icmp .ge 24, 3) := by decide +kernel
theorem d4_14 : decode prog_63_method_6_code 14 = .ok (.bipush 31, 2) := by decide +kernel
theorem d4_16 : decode prog_63_method_6_code 16 = .ok (.iload_n 3, 1) := by decide +kernel
theorem d4_17 : decode prog_63_method_6_code 17 = .ok (.imul, 1) := by decide +kernel
theorem d4_18 : decode prog_63_method_6_code 18 = .ok (.aload_n 1, 1) := by decide +kernel
theorem d4_19 : decode prog_63_method_6_code 19 = .ok (.iload_n 2, 1) := by decide +kernel
theorem d4_20 : decode prog_63_method_6_code 20 = .ok (.iload 4, 2) := by decide +kernel
theorem d4_22 : decode prog_63_method_6_code 22 = .ok (.iadd, 1) := by decide +kernel
theorem d4_23 : decode prog_63_method_6_code 23 = .ok (.laload, 1) := by decide +kernel
theorem d4_24 : decode prog_63_method_6_code 24 = .ok (.invokestatic 31, 3) := by decide +kernel
theorem d4_27 : decode prog_63_method_6_code 27 = .ok (.iadd, 1) := by decide +kernel
theorem d4_28 : decode prog_63_method_6_code 28 = .ok (.istore_n 3, 1) := by decide +kernel
theorem d4_29 : decode prog_63_method_6_code 29 = .ok (.iinc 4 1, 3) := by decide +kernel
theorem d4_32 : decode prog_63_method_6_code 32 = .ok (.goto (-27), 3) := by decide +kernel
theorem d4_35 : decode prog_63_method_6_code 35 = .ok (.aload_n 0, 1) := by decide +kernel
theorem d4_36 : decode prog_63_method_6_code 36 = .ok (.getfield 21, 3) := by decide +kernel
theorem d4_39 : decode prog_63_method_6_code 39 = .ok (.arraylength, 1) := by decide +kernel
theorem d4_40 : decode prog_63_method_6_code 40 = .ok (.iconst 1, 1) := by decide +kernel
theorem d4_41 : decode prog_63_method_6_code 41 = .ok (.isub, 1) := by decide +kernel
theorem d4_42 : decode prog_63_method_6_code 42 = .ok (.istore 4, 2) := by decide +kernel
theorem d4_44 : decode prog_63_method_6_code 44 = .ok (.iload_n 3, 1) := by decide +kernel
theorem d4_45 : decode prog_63_method_6_code 45 = .ok (.iload 4, 2) := by decide +kernel
theorem d4_47 : decode prog_63_method_6_code 47 = .ok (.invokestatic 37, 3) := by decide +kernel
theorem d4_50 : decode prog_63_method_6_code 50 = .ok (.istore 5, 2) := by decide +kernel
theorem d4_52 : decode prog_63_method_6_code 52 = .ok (.aload_n 0, 1) := by decide +kernel
theorem d4_53 : decode prog_63_method_6_code 53 = .ok (.getfield 21, 3) := by decide +kernel
theorem d4_56 : decode prog_63_method_6_code 56 = .ok (.iload 5, 2) := by decide +kernel
theorem d4_58 : decode prog_63_method_6_code 58 = .ok (.iaload, 1) := by decide +kernel
theorem d4_59 : decode prog_63_method_6_code 59 = .ok (.ifCond .eq 51, 3) := by decide +kernel
theorem d4_110 : decode prog_63_method_6_code 110 = .ok (.aload_n 0, 1) := by decide +kernel
theorem d4_111 : decode prog_63_method_6_code 111 = .ok (.dup, 1) := by decide +kernel
theorem d4_112 : decode prog_63_method_6_code 112 = .ok (.getfield 24, 3) := by decide +kernel
theorem d4_115 : decode prog_63_method_6_code 115 = .ok (.dup_x1, 1) := by decide +kernel
theorem d4_116 : decode prog_63_method_6_code 116 = .ok (.iconst 1, 1) := by decide +kernel
theorem d4_117 : decode prog_63_method_6_code 117 = .ok (.iadd, 1) := by decide +kernel
theorem d4_118 : decode prog_63_method_6_code 118 = .ok (.putfield 24, 3) := by decide +kernel
theorem d4_121 : decode prog_63_method_6_code 121 = .ok (.istore 6, 2) := by decide +kernel
theorem d4_123 : decode prog_63_method_6_code 123 = .ok (.iload 6, 2) := by decide +kernel
theorem d4_125 : decode prog_63_method_6_code 125 = .ok (.aload_n 0, 1) := by decide +kernel
theorem d4_126 : decode prog_63_method_6_code 126 = .ok (.getfield 17, 3) := by decide +kernel
theorem d4_129 : decode prog_63_method_6_code 129 = .ok (.arraylength, 1) := by decide +kernel
theorem d4_130 : decode prog_63_method_6_code 130 = .ok (.if_icmp .ne 38, 3) := by decide +kernel
theorem d4_168 : decode prog_63_method_6_code 168 = .ok (.aload_n 1, 1) := by decide +kernel
theorem d4_169 : decode prog_63_method_6_code 169 = .ok (.iload_n 2, 1) := by decide +kernel
theorem d4_170 : decode prog_63_method_6_code 170 = .ok (.aload_n 0, 1) := by decide +kernel
theorem d4_171 : decode prog_63_method_6_code 171 = .ok (.getfield 13, 3) := by decide +kernel
theorem d4_174 : decode prog_63_method_6_code 174 = .ok (.iload 6, 2) := by decide +kernel
theorem d4_176 : decode prog_63_method_6_code 176 = .ok (.aload_n 0, 1) := by decide +kernel
theorem d4_177 : decode prog_63_method_6_code 177 = .ok (.getfield 7, 3) := by decide +kernel
theorem d4_180 : decode prog_63_method_6_code 180 = .ok (.imul, 1) := by decide +kernel
theorem d4_181 : decode prog_63_method_6_code 181 = .ok (.aload_n 0, 1) := by decide +kernel
theorem d4_182 : decode prog_63_method_6_code 182 = .ok (.getfield 7, 3) := by decide +kernel
theorem d4_185 : decode prog_63_method_6_code 185 = .ok (.invokestatic 54, 3) := by decide +kernel
theorem d4_188 : decode prog_63_method_6_code 188 = .ok (.aload_n 0, 1) := by decide +kernel
theorem d4_189 : decode prog_63_method_6_code 189 = .ok (.getfield 17, 3) := by decide +kernel
theorem d4_192 : decode prog_63_method_6_code 192 = .ok (.iload 6, 2) := by decide +kernel
theorem d4_194 : decode prog_63_method_6_code 194 = .ok (.iload_n 3, 1) := by decide +kernel
theorem d4_195 : decode prog_63_method_6_code 195 = .ok (.iastore, 1) := by decide +kernel
theorem d4_196 : decode prog_63_method_6_code 196 = .ok (.aload_n 0, 1) := by decide +kernel
theorem d4_197 : decode prog_63_method_6_code 197 = .ok (.getfield 21, 3) := by decide +kernel
theorem d4_200 : decode prog_63_method_6_code 200 = .ok (.iload 5, 2) := by decide +kernel
theorem d4_202 : decode prog_63_method_6_code 202 = .ok (.iload 6, 2) := by decide +kernel
theorem d4_204 : decode prog_63_method_6_code 204 = .ok (.iconst 1, 1) := by decide +kernel
theorem d4_205 : decode prog_63_method_6_code 205 = .ok (.iadd, 1) := by decide +kernel
theorem d4_206 : decode prog_63_method_6_code 206 = .ok (.iastore, 1) := by decide +kernel
theorem d4_207 : decode prog_63_method_6_code 207 = .ok (.iconst 2, 1) := by decide +kernel
theorem d4_208 : decode prog_63_method_6_code 208 = .ok (.aload_n 0, 1) := by decide +kernel
theorem d4_209 : decode prog_63_method_6_code 209 = .ok (.getfield 24, 3) := by decide +kernel
theorem d4_212 : decode prog_63_method_6_code 212 = .ok (.imul, 1) := by decide +kernel
theorem d4_213 : decode prog_63_method_6_code 213 = .ok (.aload_n 0, 1) := by decide +kernel
theorem d4_214 : decode prog_63_method_6_code 214 = .ok (.getfield 21, 3) := by decide +kernel
theorem d4_217 : decode prog_63_method_6_code 217 = .ok (.arraylength, 1) := by decide +kernel
theorem d4_218 : decode prog_63_method_6_code 218 = .ok (.if_icmp .le 7, 3) := by decide +kernel
theorem d4_225 : decode prog_63_method_6_code 225 = .ok (.iload 6, 2) := by decide +kernel
theorem d4_227 : decode prog_63_method_6_code 227 = .ok (.ireturn, 1) := by decide +kernel
theorem pn_4_a2 : plainName "com/example/grammar_game_solver/grammargamesolver/summary/NumberedSets" = true := by first | (simp [plainName, overriddenIn]; done) | decide +kernel
theorem pd4_a2_0 : parseMethodDescriptor "(J)I" = some ⟨[.long], some .int⟩ := by decide +kernel
theorem pd4_a2_1 : parseMethodDescriptor "(II)I" = some ⟨[.int, .int], some .int⟩ := by decide +kernel
theorem ef_4_a2 (m : MethodId) (x0 : Addr) (x1 : Addr) : entryFrame m #[(.ref x0), (.ref x1), (.int (0 : Int32))] 7 = mkF m 0 #[vr x0, vr x1, vi (0 : Int32), .unset, .unset, .unset, .unset] [] := by first | (simp [entryFrame, mkF, argsToLocals, Value.category]; done) | rfl
def Q4_a2 (Z : State) (a1 : Addr) (a2 : Addr) (bw : Addr) (bh : Addr) (bs : Addr) (kw : ClassId) (kh : ClassId) (ks : ClassId) (k2 : ClassId) (x0 : Int64) (x1 : Int64) (h0 : Heap) (n0 : Nat) (v : Option Value) (h : Heap) (L : List Loc) : Prop := ∃ hs : Int32, ∃ sl : Int32, v = some (.int (0 : Int32)) ∧ Fr n0 L ∧ Keep h0 h [a1, bw, bh, bs] ∧ Fld Z h a1 c_0 "width" "I" (.int (2 : Int32)) ∧ Fld Z h a1 c_0 "words" "[J" (.ref bw) ∧ Fld Z h a1 c_0 "hashes" "[I" (.ref bh) ∧ Fld Z h a1 c_0 "slots" "[I" (.ref bs) ∧ Fld Z h a1 c_0 "count" "I" (.int (1 : Int32)) ∧ Arv Z h bw kw .long (32 : Int32) ((.long x0) :: (.long x1) :: own_zl 30) (.long (0 : Int64)) ∧ Arv Z h bh kh .int (16 : Int32) ((.int hs) :: own_zi 15) (.int (0 : Int32)) ∧ Arv Z h bs ks .int (32 : Int32) (own_sl sl) (.int (0 : Int32)) ∧ (hs = (((31 : Int32) * ((31 : Int32) + (f5 x0))) + (f5 x1))) ∧ (sl = (f6 hs (31 : Int32)))
set_option maxRecDepth 65536 in
set_option maxHeartbeats 40000000 in
theorem rm4_a2 (l : Launch) (Z : State) (a0 : Array Value) (hw : ∀ d ∈ tables_1, d.before a0 Z = true) (ws : List Jvm.Cond) (a1 : Addr) (a2 : Addr) (bw : Addr) (bh : Addr) (bs : Addr) (kw : ClassId) (kh : ClassId) (ks : ClassId) (k2 : ClassId) (x0 : Int64) (x1 : Int64) (h0 : Heap) (n0 : Nat) (Z0 : n0 ≤ h0.size) (E0 : Exa Z h0 a1 c_0) (Fwi : Fld Z h0 a1 c_0 "width" "I" (.int (2 : Int32))) (Fwo : Fld Z h0 a1 c_0 "words" "[J" (.ref bw)) (Fha : Fld Z h0 a1 c_0 "hashes" "[I" (.ref bh)) (Fsl : Fld Z h0 a1 c_0 "slots" "[I" (.ref bs)) (Fco : Fld Z h0 a1 c_0 "count" "I" (.int (0 : Int32))) (Vw : Arv Z h0 bw kw .long (32 : Int32) (own_zl 32) (.long (0 : Int64))) (Vh : Arv Z h0 bh kh .int (16 : Int32) (own_zi 16) (.int (0 : Int32))) (Vs : Arv Z h0 bs ks .int (32 : Int32) (own_zi 32) (.int (0 : Int32))) (V2 : Arv Z h0 a2 k2 .long (2 : Int32) [(.long x0), (.long x1)] (.long (0 : Int64))) (g1 : n0 ≤ a1) (gw : n0 ≤ bw) (gh : n0 ≤ bh) (gs : n0 ≤ bs) (naw : a1 ≠ bw) (nah : a1 ≠ bh) (nas : a1 ≠ bs) (n2w : a2 ≠ bw) (n2h : a2 ≠ bh) (n2s : a2 ≠ bs) (n12 : a1 ≠ a2) (nwh : bw ≠ bh) (nws : bw ≠ bs) (nhs : bh ≠ bs) :
    MetFree l y_3 (head1 (Jvm.Cond.code y_3 prog_63_method_6_code 7 (some .int) :: ws) ({ frames := 1, cells := 0, slots := 0, locals := 18 } : Room)) (fun a U => a = #[(.ref a1), (.ref a2), (.int (0 : Int32))] ∧ Z.Warmed39 U.vm ∧ U.heap = h0) (fun _ _ _ _ _ => True) (fun _ U o U' => ∃ v L, o = .returned v ∧ Q4_a2 Z a1 a2 bw bh bs kw kh ks k2 x0 x1 h0 n0 v U'.heap L ∧ FrameEnd U o U' L ({ frames := 1, cells := 0, slots := 0, locals := 18 } : Room).cells ({ frames := 1, cells := 0, slots := 0, locals := 18 } : Room).slots) := by
  refine MetFree.of_bodySF (plainFor_of_name pn_4_a2) hisR ?_
  intro p e s m args below meth c s₁ Bd hml0 hP hK
  obtain ⟨rfl, hZ, hh⟩ := hP
  have hx := Bd.exec
  have hby := Bd.bytes
  have hml : c.maxLocals = 7 := hml0
  have hown : s.vm.findClass "com/example/grammar_game_solver/grammargamesolver/summary/NumberedSets" = some m.cls := findClass_of_methodNamed Bd.named
  have hnm := (name_of_methodNamed Bd.named Bd.method).1
  have X0 : Stand p l e ({ frames := 1, cells := 0, slots := 0, locals := 18 } : Room) s m #[(.ref a1), (.ref a2), (.int (0 : Int32))] below meth c s₁ [] 0 0 := Stand.of_body Bd
  have e0 : s₁.heap = h0 := by rw [← hh, Bd.state]; rfl
  have N0 := Fr.nil n0
  have K0 : Keep h0 h0 [a1, bw, bh, bs] := Keep.refl h0 [a1, bw, bh, bs]
  obtain ⟨F0, hF0⟩ : ∃ F : JFrame, F = entryFrame m #[(.ref a1), (.ref a2), (.int (0 : Int32))] 7 := ⟨_, rfl⟩
  have pre0 : ∀ t, Steps p.tables e below (s₁.setTop F0) t → Steps p.tables e below (s₁.setTop (entryFrame m #[(.ref a1), (.ref a2), (.int (0 : Int32))] 7)) t := fun t k => hF0 ▸ k
  have go0 : Go p e below s₁ F0 s₁ (mkF m 0 #[vr a1, vr a2, vi (0 : Int32), .unset, .unset, .unset, .unset] []) := fun t k => castTop (hF0.trans (ef_4_a2 m a1 a2)) k
  have go1 : Go p e below s₁ F0 s₁ (mkF m 8 #[vr a1, vr a2, vi (0 : Int32), vi (1 : Int32), vi (0 : Int32), .unset, .unset] [(.ref a1), (.int (0 : Int32))]) := by
    intro t_ k_
    refine go0 t_ ?_
    refine o_iconst X0 hx (hb hby d4_0) (v := 1) rfl ?_
    refine o_istoreN X0 hx (hb hby d4_1) (L' := #[vr a1, vr a2, vi (0 : Int32), vi (1 : Int32), .unset, .unset, .unset]) rfl ?_
    refine o_iconst X0 hx (hb hby d4_2) (v := 0) rfl ?_
    refine o_istore X0 hx (hb hby d4_3) (L' := #[vr a1, vr a2, vi (0 : Int32), vi (1 : Int32), vi (0 : Int32), .unset, .unset]) rfl ?_
    refine o_iload X0 hx (hb hby d4_5) rfl ?_
    refine o_aloadN X0 hx (hb hby d4_7) rfl rfl ?_
    exact k_
  obtain ⟨T2, X2, e2, st2⟩ := getF X0 hx hZ hown (host := "") (Or.inl (own_w hw 9 rfl)) Via.refl e0 Fwi (g := (mkF m 8 #[vr a1, vr a2, vi (0 : Int32), vi (1 : Int32), vi (0 : Int32), .unset, .unset] [(.ref a1), (.int (0 : Int32))])) rfl rfl (hb hby d4_8)
  have go3 : Go p e below s₁ F0 T2 (mkF m 11 #[vr a1, vr a2, vi (0 : Int32), vi (1 : Int32), vi (0 : Int32), .unset, .unset] [(.int (2 : Int32)), (.int (0 : Int32))]) := fun t_ k_ => go1 t_ (st2 t_ k_)
  have go4 : Go p e below s₁ F0 T2 (mkF m 23 #[vr a1, vr a2, vi (0 : Int32), vi (1 : Int32), vi (0 : Int32), .unset, .unset] [(.int (0 : Int32)), (.ref a2), (.int (31 : Int32))]) := by
    intro t_ k_
    refine go3 t_ ?_
    refine o_icmpNo X2 hx (hb hby d4_11) (tlt (by decide : (0 : Int32) < (2 : Int32))).2.1 ?_
    refine o_bipush X2 hx (hb hby d4_14) (v := 31) rfl ?_
    refine o_iloadN X2 hx (hb hby d4_16) rfl ?_
    refine o_imulE X2 hx (hb hby d4_17) (v := 31) rfl ?_
    refine o_aloadN X2 hx (hb hby d4_18) rfl rfl ?_
    refine o_iloadN X2 hx (hb hby d4_19) rfl ?_
    refine o_iload X2 hx (hb hby d4_20) rfl ?_
    refine o_iaddE X2 hx (hb hby d4_22) (v := 0) rfl ?_
    exact k_
  obtain ⟨cl5, Ar5, -, Sz5, Nn5, Hs5, -⟩ := id V2
  have hin5 : ¬ ((0 : Int32) < 0 ∨ cl5.slots.size ≤ ((0 : Int32)).toNatClampNeg) := inb_of Sz5 ⟨by decide, by decide⟩
  have hat5 : cl5.slots[((0 : Int32)).toNatClampNeg]? = some (.long x0) := Hs5.at hin5 rfl
  have go6 : Go p e below s₁ F0 T2 (mkF m 24 #[vr a1, vr a2, vi (0 : Int32), vi (1 : Int32), vi (0 : Int32), .unset, .unset] [(.long x0), (.int (31 : Int32))]) := by
    intro t_ k_
    refine go4 t_ ?_
    refine o_laload X2 hx hZ e2 Ar5 hin5 hat5 (hb hby d4_23) ?_
    exact k_
  obtain ⟨_, _, ⟨T7, L7, k7, n7⟩, -, X7, ⟨Lc7, hQ7, l7, y7, z7⟩, st7⟩ := Jvm.LawKit.callS X2 hx (y := y_0) hown (mvT hZ (own_w hw 28 rfl)) (mvT hZ (own_w hw 29 rfl)) (mvT hZ (own_w hw 30 rfl)) (mvT hZ (own_w hw 31 rfl)) (by decide) (backOf (W := 1) (rm5 l Z a0 hw [] x0 h0 n0 Z0 ) hZ (own_w hw 31 rfl) (own_w hw 30 rfl) (by decide) (by decide)) (g := (mkF m 24 #[vr a1, vr a2, vi (0 : Int32), vi (1 : Int32), vi (0 : Int32), .unset, .unset] [(.long x0), (.int (31 : Int32))])) rfl (by rw [hml]; rfl) (argsL := [(.long x0)]) (rest := [(.int (31 : Int32))]) (lenOf pd4_a2_0 rfl) rfl (by show 2 * 0 + _ ≤ _; exact Nat.le_of_eq rfl) (hb hby d4_24) (fun _ _ => ⟨rfl, e2, (by decide : 0 + 0 ≤ _), (by decide : 0 + 0 ≤ _)⟩)
  dsimp only [Pt.U, Pt.locs, Pt.cells, Pt.slots] at X7 l7 y7 z7 st7 hQ7
  subst l7 y7 z7
  obtain ⟨rfl, Nq7, eh7⟩ := hQ7
  have N7 := Fr.app N0 Nq7
  have go8 : Go p e below s₁ F0 T7 (mkF m 27 #[vr a1, vr a2, vi (0 : Int32), vi (1 : Int32), vi (0 : Int32), .unset, .unset] [(.int (f5 x0)), (.int (31 : Int32))]) := fun t_ k_ => go6 t_ (st7 t_ k_)
  have go9 : Go p e below s₁ F0 T7 (mkF m 8 #[vr a1, vr a2, vi (0 : Int32), vi ((31 : Int32) + (f5 x0)), vi (1 : Int32), .unset, .unset] [(.ref a1), (.int (1 : Int32))]) := by
    intro t_ k_
    refine go8 t_ ?_
    refine o_iadd X7 hx (hb hby d4_27) ?_
    refine o_istoreN X7 hx (hb hby d4_28) (L' := #[vr a1, vr a2, vi (0 : Int32), vi ((31 : Int32) + (f5 x0)), vi (0 : Int32), .unset, .unset]) rfl ?_
    refine o_iinc X7 hx (hb hby d4_29) rfl (L' := #[vr a1, vr a2, vi (0 : Int32), vi ((31 : Int32) + (f5 x0)), vi (1 : Int32), .unset, .unset]) rfl ?_
    refine o_goto X7 hx (hb hby d4_32) (pc' := 5) rfl (by decide) ?_
    refine o_iload X7 hx (hb hby d4_5) rfl ?_
    refine o_aloadN X7 hx (hb hby d4_7) rfl rfl ?_
    exact k_
  obtain ⟨T10, X10, e10, st10⟩ := getF X7 hx hZ hown (host := "") (Or.inl (own_w hw 9 rfl)) Via.refl eh7 Fwi (g := (mkF m 8 #[vr a1, vr a2, vi (0 : Int32), vi ((31 : Int32) + (f5 x0)), vi (1 : Int32), .unset, .unset] [(.ref a1), (.int (1 : Int32))])) rfl rfl (hb hby d4_8)
  have go11 : Go p e below s₁ F0 T10 (mkF m 11 #[vr a1, vr a2, vi (0 : Int32), vi ((31 : Int32) + (f5 x0)), vi (1 : Int32), .unset, .unset] [(.int (2 : Int32)), (.int (1 : Int32))]) := fun t_ k_ => go9 t_ (st10 t_ k_)
  have go12 : Go p e below s₁ F0 T10 (mkF m 23 #[vr a1, vr a2, vi (0 : Int32), vi ((31 : Int32) + (f5 x0)), vi (1 : Int32), .unset, .unset] [(.int (1 : Int32)), (.ref a2), (.int ((31 : Int32) * ((31 : Int32) + (f5 x0))))]) := by
    intro t_ k_
    refine go11 t_ ?_
    refine o_icmpNo X10 hx (hb hby d4_11) (tlt (by decide : (1 : Int32) < (2 : Int32))).2.1 ?_
    refine o_bipush X10 hx (hb hby d4_14) (v := 31) rfl ?_
    refine o_iloadN X10 hx (hb hby d4_16) rfl ?_
    refine o_imul X10 hx (hb hby d4_17) ?_
    refine o_aloadN X10 hx (hb hby d4_18) rfl rfl ?_
    refine o_iloadN X10 hx (hb hby d4_19) rfl ?_
    refine o_iload X10 hx (hb hby d4_20) rfl ?_
    refine o_iaddE X10 hx (hb hby d4_22) (v := 1) rfl ?_
    exact k_
  obtain ⟨cl13, Ar13, -, Sz13, Nn13, Hs13, -⟩ := id V2
  have hin13 : ¬ ((1 : Int32) < 0 ∨ cl13.slots.size ≤ ((1 : Int32)).toNatClampNeg) := inb_of Sz13 ⟨by decide, by decide⟩
  have hat13 : cl13.slots[((1 : Int32)).toNatClampNeg]? = some (.long x1) := Hs13.at hin13 rfl
  have go14 : Go p e below s₁ F0 T10 (mkF m 24 #[vr a1, vr a2, vi (0 : Int32), vi ((31 : Int32) + (f5 x0)), vi (1 : Int32), .unset, .unset] [(.long x1), (.int ((31 : Int32) * ((31 : Int32) + (f5 x0))))]) := by
    intro t_ k_
    refine go12 t_ ?_
    refine o_laload X10 hx hZ e10 Ar13 hin13 hat13 (hb hby d4_23) ?_
    exact k_
  obtain ⟨_, _, ⟨T15, L15, k15, n15⟩, -, X15, ⟨Lc15, hQ15, l15, y15, z15⟩, st15⟩ := Jvm.LawKit.callS X10 hx (y := y_0) hown (mvT hZ (own_w hw 28 rfl)) (mvT hZ (own_w hw 29 rfl)) (mvT hZ (own_w hw 30 rfl)) (mvT hZ (own_w hw 31 rfl)) (by decide) (backOf (W := 1) (rm5 l Z a0 hw [] x1 h0 n0 Z0 ) hZ (own_w hw 31 rfl) (own_w hw 30 rfl) (by decide) (by decide)) (g := (mkF m 24 #[vr a1, vr a2, vi (0 : Int32), vi ((31 : Int32) + (f5 x0)), vi (1 : Int32), .unset, .unset] [(.long x1), (.int ((31 : Int32) * ((31 : Int32) + (f5 x0))))])) rfl (by rw [hml]; rfl) (argsL := [(.long x1)]) (rest := [(.int ((31 : Int32) * ((31 : Int32) + (f5 x0))))]) (lenOf pd4_a2_0 rfl) rfl (by show 2 * 0 + _ ≤ _; exact Nat.le_of_eq rfl) (hb hby d4_24) (fun _ _ => ⟨rfl, e10, (by decide : 0 + 0 ≤ _), (by decide : 0 + 0 ≤ _)⟩)
  dsimp only [Pt.U, Pt.locs, Pt.cells, Pt.slots] at X15 l15 y15 z15 st15 hQ15
  subst l15 y15 z15
  obtain ⟨rfl, Nq15, eh15⟩ := hQ15
  have N15 := Fr.app N7 Nq15
  have go16 : Go p e below s₁ F0 T15 (mkF m 27 #[vr a1, vr a2, vi (0 : Int32), vi ((31 : Int32) + (f5 x0)), vi (1 : Int32), .unset, .unset] [(.int (f5 x1)), (.int ((31 : Int32) * ((31 : Int32) + (f5 x0))))]) := fun t_ k_ => go14 t_ (st15 t_ k_)
  have go17 : Go p e below s₁ F0 T15 (mkF m 8 #[vr a1, vr a2, vi (0 : Int32), vi (((31 : Int32) * ((31 : Int32) + (f5 x0))) + (f5 x1)), vi (2 : Int32), .unset, .unset] [(.ref a1), (.int (2 : Int32))]) := by
    intro t_ k_
    refine go16 t_ ?_
    refine o_iadd X15 hx (hb hby d4_27) ?_
    refine o_istoreN X15 hx (hb hby d4_28) (L' := #[vr a1, vr a2, vi (0 : Int32), vi (((31 : Int32) * ((31 : Int32) + (f5 x0))) + (f5 x1)), vi (1 : Int32), .unset, .unset]) rfl ?_
    refine o_iinc X15 hx (hb hby d4_29) rfl (L' := #[vr a1, vr a2, vi (0 : Int32), vi (((31 : Int32) * ((31 : Int32) + (f5 x0))) + (f5 x1)), vi (2 : Int32), .unset, .unset]) rfl ?_
    refine o_goto X15 hx (hb hby d4_32) (pc' := 5) rfl (by decide) ?_
    refine o_iload X15 hx (hb hby d4_5) rfl ?_
    refine o_aloadN X15 hx (hb hby d4_7) rfl rfl ?_
    exact k_
  obtain ⟨T18, X18, e18, st18⟩ := getF X15 hx hZ hown (host := "") (Or.inl (own_w hw 9 rfl)) Via.refl eh15 Fwi (g := (mkF m 8 #[vr a1, vr a2, vi (0 : Int32), vi (((31 : Int32) * ((31 : Int32) + (f5 x0))) + (f5 x1)), vi (2 : Int32), .unset, .unset] [(.ref a1), (.int (2 : Int32))])) rfl rfl (hb hby d4_8)
  have go19 : Go p e below s₁ F0 T18 (mkF m 11 #[vr a1, vr a2, vi (0 : Int32), vi (((31 : Int32) * ((31 : Int32) + (f5 x0))) + (f5 x1)), vi (2 : Int32), .unset, .unset] [(.int (2 : Int32)), (.int (2 : Int32))]) := fun t_ k_ => go17 t_ (st18 t_ k_)
  have go20 : Go p e below s₁ F0 T18 (mkF m 35 #[vr a1, vr a2, vi (0 : Int32), vi (((31 : Int32) * ((31 : Int32) + (f5 x0))) + (f5 x1)), vi (2 : Int32), .unset, .unset] []) := by
    intro t_ k_
    refine go19 t_ ?_
    refine o_icmpYes X18 hx (hb hby d4_11) (pc' := 35) rfl (by decide) (flt (by decide : ¬ ((2 : Int32) < (2 : Int32)))).2.1 ?_
    exact k_
  obtain ⟨hs, h_hs⟩ : ∃ z : Int32, z = (((31 : Int32) * ((31 : Int32) + (f5 x0))) + (f5 x1)) := ⟨_, rfl⟩
  have go21 : Go p e below s₁ F0 T18 (mkF m 35 #[vr a1, vr a2, vi (0 : Int32), vi hs, vi (2 : Int32), .unset, .unset] []) := by rw [h_hs]; exact go20
  have go22 : Go p e below s₁ F0 T18 (mkF m 36 #[vr a1, vr a2, vi (0 : Int32), vi hs, vi (2 : Int32), .unset, .unset] [(.ref a1)]) := by
    intro t_ k_
    refine go21 t_ ?_
    refine o_aloadN X18 hx (hb hby d4_35) rfl rfl ?_
    exact k_
  obtain ⟨T23, X23, e23, st23⟩ := getF X18 hx hZ hown (host := "") (Or.inl (own_w hw 17 rfl)) Via.refl e18 Fsl (g := (mkF m 36 #[vr a1, vr a2, vi (0 : Int32), vi hs, vi (2 : Int32), .unset, .unset] [(.ref a1)])) rfl rfl (hb hby d4_36)
  have go24 : Go p e below s₁ F0 T23 (mkF m 39 #[vr a1, vr a2, vi (0 : Int32), vi hs, vi (2 : Int32), .unset, .unset] [(.ref bs)]) := fun t_ k_ => go22 t_ (st23 t_ k_)
  obtain ⟨cl25, Ar25, -, Sz25, Nn25, -, -⟩ := id Vs
  have go26 : Go p e below s₁ F0 T23 (mkF m 47 #[vr a1, vr a2, vi (0 : Int32), vi hs, vi (31 : Int32), .unset, .unset] [(.int (31 : Int32)), (.int hs)]) := by
    intro t_ k_
    refine go24 t_ ?_
    refine o_len X23 hx hZ e23 Ar25 Sz25 Nn25 (hb hby d4_39) ?_
    refine o_iconst X23 hx (hb hby d4_40) (v := 1) rfl ?_
    refine o_isubE X23 hx (hb hby d4_41) (v := 31) rfl ?_
    refine o_istore X23 hx (hb hby d4_42) (L' := #[vr a1, vr a2, vi (0 : Int32), vi hs, vi (31 : Int32), .unset, .unset]) rfl ?_
    refine o_iloadN X23 hx (hb hby d4_44) rfl ?_
    refine o_iload X23 hx (hb hby d4_45) rfl ?_
    exact k_
  obtain ⟨_, _, ⟨T27, L27, k27, n27⟩, -, X27, ⟨Lc27, hQ27, l27, y27, z27⟩, st27⟩ := Jvm.LawKit.callS X23 hx (y := y_1) hown (mvT hZ (own_w hw 32 rfl)) (mvT hZ (own_w hw 33 rfl)) (mvT hZ (own_w hw 2 rfl)) (mvT hZ (own_w hw 34 rfl)) (by decide) (backOf (W := 0) (rm6 l Z a0 hw [] hs (31 : Int32) h0 n0 Z0 ) hZ (own_w hw 34 rfl) (own_w hw 2 rfl) (by decide) (by decide)) (g := (mkF m 47 #[vr a1, vr a2, vi (0 : Int32), vi hs, vi (31 : Int32), .unset, .unset] [(.int (31 : Int32)), (.int hs)])) rfl (by rw [hml]; rfl) (argsL := [(.int hs), (.int (31 : Int32))]) (rest := []) (lenOf pd4_a2_1 rfl) rfl (by show 2 * 0 + _ ≤ _; exact Nat.le_of_eq rfl) (hb hby d4_47) (fun _ _ => ⟨rfl, e23, (by decide : 0 + 0 ≤ _), (by decide : 0 + 0 ≤ _)⟩)
  dsimp only [Pt.U, Pt.locs, Pt.cells, Pt.slots] at X27 l27 y27 z27 st27 hQ27
  subst l27 y27 z27
  obtain ⟨rfl, Nq27, eh27⟩ := hQ27
  have N27 := Fr.app N15 Nq27
  have go28 : Go p e below s₁ F0 T27 (mkF m 50 #[vr a1, vr a2, vi (0 : Int32), vi hs, vi (31 : Int32), .unset, .unset] [(.int (f6 hs (31 : Int32)))]) := fun t_ k_ => go26 t_ (st27 t_ k_)
  have go29 : Go p e below s₁ F0 T27 (mkF m 52 #[vr a1, vr a2, vi (0 : Int32), vi hs, vi (31 : Int32), vi (f6 hs (31 : Int32)), .unset] []) := by
    intro t_ k_
    refine go28 t_ ?_
    refine o_istore X27 hx (hb hby d4_50) (L' := #[vr a1, vr a2, vi (0 : Int32), vi hs, vi (31 : Int32), vi (f6 hs (31 : Int32)), .unset]) rfl ?_
    exact k_
  obtain ⟨sl, h_sl⟩ : ∃ z : Int32, z = (f6 hs (31 : Int32)) := ⟨_, rfl⟩
  have go30 : Go p e below s₁ F0 T27 (mkF m 52 #[vr a1, vr a2, vi (0 : Int32), vi hs, vi (31 : Int32), vi sl, .unset] []) := by rw [h_sl]; exact go29
  have go31 : Go p e below s₁ F0 T27 (mkF m 53 #[vr a1, vr a2, vi (0 : Int32), vi hs, vi (31 : Int32), vi sl, .unset] [(.ref a1)]) := by
    intro t_ k_
    refine go30 t_ ?_
    refine o_aloadN X27 hx (hb hby d4_52) rfl rfl ?_
    exact k_
  obtain ⟨T32, X32, e32, st32⟩ := getF X27 hx hZ hown (host := "") (Or.inl (own_w hw 17 rfl)) Via.refl eh27 Fsl (g := (mkF m 53 #[vr a1, vr a2, vi (0 : Int32), vi hs, vi (31 : Int32), vi sl, .unset] [(.ref a1)])) rfl rfl (hb hby d4_53)
  have go33 : Go p e below s₁ F0 T32 (mkF m 56 #[vr a1, vr a2, vi (0 : Int32), vi hs, vi (31 : Int32), vi sl, .unset] [(.ref bs)]) := fun t_ k_ => go31 t_ (st32 t_ k_)
  have go34 : Go p e below s₁ F0 T32 (mkF m 58 #[vr a1, vr a2, vi (0 : Int32), vi hs, vi (31 : Int32), vi sl, .unset] [(.int sl), (.ref bs)]) := by
    intro t_ k_
    refine go33 t_ ?_
    refine o_iload X32 hx (hb hby d4_56) rfl ?_
    exact k_
  obtain ⟨cl35, Ar35, -, Sz35, Nn35, Hs35, -⟩ := id Vs
  have hin35 : ¬ (sl < 0 ∨ cl35.slots.size ≤ (sl).toNatClampNeg) := inb_of Sz35 (own_in h_sl)
  have hat35 : cl35.slots[(sl).toNatClampNeg]? = some (.int (0 : Int32)) := Hs35.at hin35 (own_z _)
  have go36 : Go p e below s₁ F0 T32 (mkF m 112 #[vr a1, vr a2, vi (0 : Int32), vi hs, vi (31 : Int32), vi sl, .unset] [(.ref a1), (.ref a1)]) := by
    intro t_ k_
    refine go34 t_ ?_
    refine o_iaload X32 hx hZ e32 Ar35 hin35 hat35 (hb hby d4_58) ?_
    refine o_ifYes X32 hx (hb hby d4_59) (pc' := 110) rfl (by decide) ((if0 _ _).trans (teq (by decide : (0 : Int32) = (0 : Int32))).1) ?_
    refine o_aloadN X32 hx (hb hby d4_110) rfl rfl ?_
    refine o_dup X32 hx (hb hby d4_111) rfl ?_
    exact k_
  obtain ⟨T37, X37, e37, st37⟩ := getF X32 hx hZ hown (host := "") (Or.inl (own_w hw 36 rfl)) Via.refl e32 Fco (g := (mkF m 112 #[vr a1, vr a2, vi (0 : Int32), vi hs, vi (31 : Int32), vi sl, .unset] [(.ref a1), (.ref a1)])) rfl rfl (hb hby d4_112)
  have go38 : Go p e below s₁ F0 T37 (mkF m 115 #[vr a1, vr a2, vi (0 : Int32), vi hs, vi (31 : Int32), vi sl, .unset] [(.int (0 : Int32)), (.ref a1)]) := fun t_ k_ => go36 t_ (st37 t_ k_)
  have go39 : Go p e below s₁ F0 T37 (mkF m 118 #[vr a1, vr a2, vi (0 : Int32), vi hs, vi (31 : Int32), vi sl, .unset] [(.int (1 : Int32)), (.ref a1), (.int (0 : Int32))]) := by
    intro t_ k_
    refine go38 t_ ?_
    refine o_dupX1 X37 hx (hb hby d4_115) rfl rfl ?_
    refine o_iconst X37 hx (hb hby d4_116) (v := 1) rfl ?_
    refine o_iaddE X37 hx (hb hby d4_117) (v := 1) rfl ?_
    exact k_
  obtain ⟨T40, h40, X40, e40, W40, st40⟩ := putF X37 hx hZ hown (host := "") (Or.inl (own_w hw 36 rfl)) Via.refl e37 Fco E0 (Or.inl (own_w hw 37 rfl)) (own_w hw 1 rfl) (ty := .int) (by decide) rfl rfl (g := (mkF m 118 #[vr a1, vr a2, vi (0 : Int32), vi hs, vi (31 : Int32), vi sl, .unset] [(.int (1 : Int32)), (.ref a1), (.int (0 : Int32))])) rfl rfl (hb hby d4_118)
  have Fw40 : Fld Z h40 a1 c_0 "count" "I" (.int (1 : Int32)) := Fld.same W40 Fco
  have K41 : Keep h0 h40 [a1, bw, bh, bs] := K0.wr W40 (Or.inl (List.mem_of_getElem? (i := 0) rfl))
  have Z41 : n0 ≤ h40.size := Nat.le_trans Z0 (Keep.of_wr W40).1
  have N40 := Fr.snoc X40 N27 g1
  have go42 : Go p e below s₁ F0 T40 (mkF m 121 #[vr a1, vr a2, vi (0 : Int32), vi hs, vi (31 : Int32), vi sl, .unset] [(.int (0 : Int32))]) := fun t_ k_ => go39 t_ (st40 t_ k_)
  have F43 : Fld Z h40 a1 c_0 "hashes" "[I" (.ref bh) := (Fha.other W40 (Or.inr (slot_ne (Or.inl (own_w hw 16 rfl)) (Or.inl (own_w hw 37 rfl)) (by decide) (t := (.array .int)) (t' := .int) (by decide) (by decide))))
  have go44 : Go p e below s₁ F0 T40 (mkF m 126 #[vr a1, vr a2, vi (0 : Int32), vi hs, vi (31 : Int32), vi sl, vi (0 : Int32)] [(.ref a1), (.int (0 : Int32))]) := by
    intro t_ k_
    refine go42 t_ ?_
    refine o_istore X40 hx (hb hby d4_121) (L' := #[vr a1, vr a2, vi (0 : Int32), vi hs, vi (31 : Int32), vi sl, vi (0 : Int32)]) rfl ?_
    refine o_iload X40 hx (hb hby d4_123) rfl ?_
    refine o_aloadN X40 hx (hb hby d4_125) rfl rfl ?_
    exact k_
  obtain ⟨T45, X45, e45, st45⟩ := getF X40 hx hZ hown (host := "") (Or.inl (own_w hw 15 rfl)) Via.refl e40 F43 (g := (mkF m 126 #[vr a1, vr a2, vi (0 : Int32), vi hs, vi (31 : Int32), vi sl, vi (0 : Int32)] [(.ref a1), (.int (0 : Int32))])) rfl rfl (hb hby d4_126)
  have go46 : Go p e below s₁ F0 T45 (mkF m 129 #[vr a1, vr a2, vi (0 : Int32), vi hs, vi (31 : Int32), vi sl, vi (0 : Int32)] [(.ref bh), (.int (0 : Int32))]) := fun t_ k_ => go44 t_ (st45 t_ k_)
  have F47 : Arv Z h40 bh kh .int (16 : Int32) (own_zi 16) (.int (0 : Int32)) := (Vh.other W40 (Ne.symm nah))
  obtain ⟨cl48, Ar48, -, Sz48, Nn48, -, -⟩ := id F47
  have F49 : Fld Z h40 a1 c_0 "words" "[J" (.ref bw) := (Fwo.other W40 (Or.inr (slot_ne (Or.inl (own_w hw 13 rfl)) (Or.inl (own_w hw 37 rfl)) (by decide) (t := (.array .long)) (t' := .int) (by decide) (by decide))))
  have go50 : Go p e below s₁ F0 T45 (mkF m 171 #[vr a1, vr a2, vi (0 : Int32), vi hs, vi (31 : Int32), vi sl, vi (0 : Int32)] [(.ref a1), (.int (0 : Int32)), (.ref a2)]) := by
    intro t_ k_
    refine go46 t_ ?_
    refine o_len X45 hx hZ e45 Ar48 Sz48 Nn48 (hb hby d4_129) ?_
    refine o_icmpYes X45 hx (hb hby d4_130) (pc' := 168) rfl (by decide) (feq (by decide : ¬ ((0 : Int32) = (16 : Int32)))).2 ?_
    refine o_aloadN X45 hx (hb hby d4_168) rfl rfl ?_
    refine o_iloadN X45 hx (hb hby d4_169) rfl ?_
    refine o_aloadN X45 hx (hb hby d4_170) rfl rfl ?_
    exact k_
  obtain ⟨T51, X51, e51, st51⟩ := getF X45 hx hZ hown (host := "") (Or.inl (own_w hw 12 rfl)) Via.refl e45 F49 (g := (mkF m 171 #[vr a1, vr a2, vi (0 : Int32), vi hs, vi (31 : Int32), vi sl, vi (0 : Int32)] [(.ref a1), (.int (0 : Int32)), (.ref a2)])) rfl rfl (hb hby d4_171)
  have go52 : Go p e below s₁ F0 T51 (mkF m 174 #[vr a1, vr a2, vi (0 : Int32), vi hs, vi (31 : Int32), vi sl, vi (0 : Int32)] [(.ref bw), (.int (0 : Int32)), (.ref a2)]) := fun t_ k_ => go50 t_ (st51 t_ k_)
  have F53 : Fld Z h40 a1 c_0 "width" "I" (.int (2 : Int32)) := (Fwi.other W40 (Or.inr (slot_ne (Or.inr (own_w hw 10 rfl)) (Or.inl (own_w hw 37 rfl)) (by decide) (t := .int) (t' := .int) (by decide) (by decide))))
  have go54 : Go p e below s₁ F0 T51 (mkF m 177 #[vr a1, vr a2, vi (0 : Int32), vi hs, vi (31 : Int32), vi sl, vi (0 : Int32)] [(.ref a1), (.int (0 : Int32)), (.ref bw), (.int (0 : Int32)), (.ref a2)]) := by
    intro t_ k_
    refine go52 t_ ?_
    refine o_iload X51 hx (hb hby d4_174) rfl ?_
    refine o_aloadN X51 hx (hb hby d4_176) rfl rfl ?_
    exact k_
  obtain ⟨T55, X55, e55, st55⟩ := getF X51 hx hZ hown (host := "") (Or.inl (own_w hw 9 rfl)) Via.refl e51 F53 (g := (mkF m 177 #[vr a1, vr a2, vi (0 : Int32), vi hs, vi (31 : Int32), vi sl, vi (0 : Int32)] [(.ref a1), (.int (0 : Int32)), (.ref bw), (.int (0 : Int32)), (.ref a2)])) rfl rfl (hb hby d4_177)
  have go56 : Go p e below s₁ F0 T55 (mkF m 180 #[vr a1, vr a2, vi (0 : Int32), vi hs, vi (31 : Int32), vi sl, vi (0 : Int32)] [(.int (2 : Int32)), (.int (0 : Int32)), (.ref bw), (.int (0 : Int32)), (.ref a2)]) := fun t_ k_ => go54 t_ (st55 t_ k_)
  have go57 : Go p e below s₁ F0 T55 (mkF m 182 #[vr a1, vr a2, vi (0 : Int32), vi hs, vi (31 : Int32), vi sl, vi (0 : Int32)] [(.ref a1), (.int (0 : Int32)), (.ref bw), (.int (0 : Int32)), (.ref a2)]) := by
    intro t_ k_
    refine go56 t_ ?_
    refine o_imulE X55 hx (hb hby d4_180) (v := 0) rfl ?_
    refine o_aloadN X55 hx (hb hby d4_181) rfl rfl ?_
    exact k_
  obtain ⟨T58, X58, e58, st58⟩ := getF X55 hx hZ hown (host := "") (Or.inl (own_w hw 9 rfl)) Via.refl e55 F53 (g := (mkF m 182 #[vr a1, vr a2, vi (0 : Int32), vi hs, vi (31 : Int32), vi sl, vi (0 : Int32)] [(.ref a1), (.int (0 : Int32)), (.ref bw), (.int (0 : Int32)), (.ref a2)])) rfl rfl (hb hby d4_182)
  have go59 : Go p e below s₁ F0 T58 (mkF m 185 #[vr a1, vr a2, vi (0 : Int32), vi hs, vi (31 : Int32), vi sl, vi (0 : Int32)] [(.int (2 : Int32)), (.int (0 : Int32)), (.ref bw), (.int (0 : Int32)), (.ref a2)]) := fun t_ k_ => go57 t_ (st58 t_ k_)
  have F60 : Arv Z h40 a2 k2 .long (2 : Int32) [(.long x0), (.long x1)] (.long (0 : Int64)) := (V2.other W40 (Ne.symm n12))
  have F61 : Arv Z h40 bw kw .long (32 : Int32) (own_zl 32) (.long (0 : Int64)) := (Vw.other W40 (Ne.symm naw))
  obtain ⟨T62, h62, L62, X62, e62, N62, Kc62, Vc62, st62⟩ := cpA X58 hx hZ hown (own_w hw 38 rfl) (own_w hw 41 rfl) (own_w hw 39 rfl) (own_w hw 40 rfl) e58 F60 F61 (Or.inl ⟨rfl, rfl⟩) (by decide) (by decide) (by decide) (by decide) (by decide) (us := [(.long x0), (.long x1)]) rfl (Nat.le_of_ble_eq_true rfl) N40 gw (g := (mkF m 185 #[vr a1, vr a2, vi (0 : Int32), vi hs, vi (31 : Int32), vi sl, vi (0 : Int32)] [(.int (2 : Int32)), (.int (0 : Int32)), (.ref bw), (.int (0 : Int32)), (.ref a2)])) rfl (by rw [hml]; rfl) rfl (hb hby d4_185) (by decide) (W := 0) (by show 2 * 0 + _ ≤ _; exact Nat.le_of_eq rfl) (by decide)
  have V62 : Arv Z h62 bw kw .long (32 : Int32) ((.long x0) :: (.long x1) :: own_zl 30) (.long (0 : Int64)) := Vc62
  have K63 : Keep h0 h62 [a1, bw, bh, bs] := K41.trans Kc62 (allS (Or.inl (List.mem_of_getElem? (i := 1) rfl)) all0)
  have Z63 : n0 ≤ h62.size := Nat.le_trans Z41 Kc62.1
  have go64 : Go p e below s₁ F0 T62 (mkF m 188 #[vr a1, vr a2, vi (0 : Int32), vi hs, vi (31 : Int32), vi sl, vi (0 : Int32)] []) := fun t_ k_ => go59 t_ (st62 t_ k_)
  have F65 : Fld Z h62 a1 c_0 "hashes" "[I" (.ref bh) := (F43.keep Kc62 (ninS naw nin0))
  have go66 : Go p e below s₁ F0 T62 (mkF m 189 #[vr a1, vr a2, vi (0 : Int32), vi hs, vi (31 : Int32), vi sl, vi (0 : Int32)] [(.ref a1)]) := by
    intro t_ k_
    refine go64 t_ ?_
    refine o_aloadN X62 hx (hb hby d4_188) rfl rfl ?_
    exact k_
  obtain ⟨T67, X67, e67, st67⟩ := getF X62 hx hZ hown (host := "") (Or.inl (own_w hw 15 rfl)) Via.refl e62 F65 (g := (mkF m 189 #[vr a1, vr a2, vi (0 : Int32), vi hs, vi (31 : Int32), vi sl, vi (0 : Int32)] [(.ref a1)])) rfl rfl (hb hby d4_189)
  have go68 : Go p e below s₁ F0 T67 (mkF m 192 #[vr a1, vr a2, vi (0 : Int32), vi hs, vi (31 : Int32), vi sl, vi (0 : Int32)] [(.ref bh)]) := fun t_ k_ => go66 t_ (st67 t_ k_)
  have F69 : Arv Z h62 bh kh .int (16 : Int32) (own_zi 16) (.int (0 : Int32)) := (F47.keep Kc62 (ninS (Ne.symm nwh) nin0))
  have go70 : Go p e below s₁ F0 T67 (mkF m 195 #[vr a1, vr a2, vi (0 : Int32), vi hs, vi (31 : Int32), vi sl, vi (0 : Int32)] [(.int hs), (.int (0 : Int32)), (.ref bh)]) := by
    intro t_ k_
    refine go68 t_ ?_
    refine o_iload X67 hx (hb hby d4_192) rfl ?_
    refine o_iloadN X67 hx (hb hby d4_194) rfl ?_
    exact k_
  obtain ⟨cl71, Ar71, q71, Sz71, Nn71, Hs71, G71⟩ := id F69
  have hin71 : ¬ ((0 : Int32) < 0 ∨ cl71.slots.size ≤ ((0 : Int32)).toNatClampNeg) := inb_of Sz71 ⟨by decide, by decide⟩
  obtain ⟨T71, h71, X71, e71, W71, st71⟩ := stI X67 hx hZ e67 Ar71 (j := (0 : Int32)) hin71 (g := (mkF m 195 #[vr a1, vr a2, vi (0 : Int32), vi hs, vi (31 : Int32), vi sl, vi (0 : Int32)] [(.int hs), (.int (0 : Int32)), (.ref bh)])) rfl rfl (hb hby d4_195)
  have V71 : Arv Z h71 bh kh .int (16 : Int32) ((.int hs) :: own_zi 15) (.int (0 : Int32)) := Arv.set Ar71 q71 Sz71 Nn71 Hs71 G71 rfl W71 0 rfl (Nat.le_of_ble_eq_true rfl)
  have K72 : Keep h0 h71 [a1, bw, bh, bs] := K63.wr W71 (Or.inl (List.mem_of_getElem? (i := 2) rfl))
  have Z72 : n0 ≤ h71.size := Nat.le_trans Z63 (Keep.of_wr W71).1
  have N71 := Fr.snoc X71 N62 gh
  have go73 : Go p e below s₁ F0 T71 (mkF m 196 #[vr a1, vr a2, vi (0 : Int32), vi hs, vi (31 : Int32), vi sl, vi (0 : Int32)] []) := fun t_ k_ => go70 t_ (st71 t_ k_)
  have F74 : Fld Z h71 a1 c_0 "slots" "[I" (.ref bs) := (((Fsl.other W40 (Or.inr (slot_ne (Or.inl (own_w hw 18 rfl)) (Or.inl (own_w hw 37 rfl)) (by decide) (t := (.array .int)) (t' := .int) (by decide) (by decide)))).keep Kc62 (ninS naw nin0)).other W71 (Or.inl nah))
  have go75 : Go p e below s₁ F0 T71 (mkF m 197 #[vr a1, vr a2, vi (0 : Int32), vi hs, vi (31 : Int32), vi sl, vi (0 : Int32)] [(.ref a1)]) := by
    intro t_ k_
    refine go73 t_ ?_
    refine o_aloadN X71 hx (hb hby d4_196) rfl rfl ?_
    exact k_
  obtain ⟨T76, X76, e76, st76⟩ := getF X71 hx hZ hown (host := "") (Or.inl (own_w hw 17 rfl)) Via.refl e71 F74 (g := (mkF m 197 #[vr a1, vr a2, vi (0 : Int32), vi hs, vi (31 : Int32), vi sl, vi (0 : Int32)] [(.ref a1)])) rfl rfl (hb hby d4_197)
  have go77 : Go p e below s₁ F0 T76 (mkF m 200 #[vr a1, vr a2, vi (0 : Int32), vi hs, vi (31 : Int32), vi sl, vi (0 : Int32)] [(.ref bs)]) := fun t_ k_ => go75 t_ (st76 t_ k_)
  have F78 : Arv Z h71 bs ks .int (32 : Int32) (own_zi 32) (.int (0 : Int32)) := (((Vs.other W40 (Ne.symm nas)).keep Kc62 (ninS (Ne.symm nws) nin0)).other W71 (Ne.symm nhs))
  have go79 : Go p e below s₁ F0 T76 (mkF m 206 #[vr a1, vr a2, vi (0 : Int32), vi hs, vi (31 : Int32), vi sl, vi (0 : Int32)] [(.int (1 : Int32)), (.int sl), (.ref bs)]) := by
    intro t_ k_
    refine go77 t_ ?_
    refine o_iload X76 hx (hb hby d4_200) rfl ?_
    refine o_iload X76 hx (hb hby d4_202) rfl ?_
    refine o_iconst X76 hx (hb hby d4_204) (v := 1) rfl ?_
    refine o_iaddE X76 hx (hb hby d4_205) (v := 1) rfl ?_
    exact k_
  obtain ⟨cl80, Ar80, q80, Sz80, Nn80, Hs80, G80⟩ := id F78
  have hin80 : ¬ (sl < 0 ∨ cl80.slots.size ≤ (sl).toNatClampNeg) := inb_of Sz80 (own_in h_sl)
  obtain ⟨T80, h80, X80, e80, W80, st80⟩ := stI X76 hx hZ e76 Ar80 (j := sl) hin80 (g := (mkF m 206 #[vr a1, vr a2, vi (0 : Int32), vi hs, vi (31 : Int32), vi sl, vi (0 : Int32)] [(.int (1 : Int32)), (.int sl), (.ref bs)])) rfl rfl (hb hby d4_206)
  have V80 : Arv Z h80 bs ks .int (32 : Int32) (own_sl sl) (.int (0 : Int32)) := Arv.set Ar80 q80 Sz80 Nn80 Hs80 G80 rfl W80 sl.toNatClampNeg rfl (own_lz h_sl)
  have K81 : Keep h0 h80 [a1, bw, bh, bs] := K72.wr W80 (Or.inl (List.mem_of_getElem? (i := 3) rfl))
  have Z81 : n0 ≤ h80.size := Nat.le_trans Z72 (Keep.of_wr W80).1
  have N80 := Fr.snoc X80 N71 gs
  have go82 : Go p e below s₁ F0 T80 (mkF m 207 #[vr a1, vr a2, vi (0 : Int32), vi hs, vi (31 : Int32), vi sl, vi (0 : Int32)] []) := fun t_ k_ => go79 t_ (st80 t_ k_)
  have F83 : Fld Z h80 a1 c_0 "count" "I" (.int (1 : Int32)) := (((Fw40.keep Kc62 (ninS naw nin0)).other W71 (Or.inl nah)).other W80 (Or.inl nas))
  have go84 : Go p e below s₁ F0 T80 (mkF m 209 #[vr a1, vr a2, vi (0 : Int32), vi hs, vi (31 : Int32), vi sl, vi (0 : Int32)] [(.ref a1), (.int (2 : Int32))]) := by
    intro t_ k_
    refine go82 t_ ?_
    refine o_iconst X80 hx (hb hby d4_207) (v := 2) rfl ?_
    refine o_aloadN X80 hx (hb hby d4_208) rfl rfl ?_
    exact k_
  obtain ⟨T85, X85, e85, st85⟩ := getF X80 hx hZ hown (host := "") (Or.inl (own_w hw 36 rfl)) Via.refl e80 F83 (g := (mkF m 209 #[vr a1, vr a2, vi (0 : Int32), vi hs, vi (31 : Int32), vi sl, vi (0 : Int32)] [(.ref a1), (.int (2 : Int32))])) rfl rfl (hb hby d4_209)
  have go86 : Go p e below s₁ F0 T85 (mkF m 212 #[vr a1, vr a2, vi (0 : Int32), vi hs, vi (31 : Int32), vi sl, vi (0 : Int32)] [(.int (1 : Int32)), (.int (2 : Int32))]) := fun t_ k_ => go84 t_ (st85 t_ k_)
  have F87 : Fld Z h80 a1 c_0 "slots" "[I" (.ref bs) := (F74.other W80 (Or.inl nas))
  have go88 : Go p e below s₁ F0 T85 (mkF m 214 #[vr a1, vr a2, vi (0 : Int32), vi hs, vi (31 : Int32), vi sl, vi (0 : Int32)] [(.ref a1), (.int (2 : Int32))]) := by
    intro t_ k_
    refine go86 t_ ?_
    refine o_imulE X85 hx (hb hby d4_212) (v := 2) rfl ?_
    refine o_aloadN X85 hx (hb hby d4_213) rfl rfl ?_
    exact k_
  obtain ⟨T89, X89, e89, st89⟩ := getF X85 hx hZ hown (host := "") (Or.inl (own_w hw 17 rfl)) Via.refl e85 F87 (g := (mkF m 214 #[vr a1, vr a2, vi (0 : Int32), vi hs, vi (31 : Int32), vi sl, vi (0 : Int32)] [(.ref a1), (.int (2 : Int32))])) rfl rfl (hb hby d4_214)
  have go90 : Go p e below s₁ F0 T89 (mkF m 217 #[vr a1, vr a2, vi (0 : Int32), vi hs, vi (31 : Int32), vi sl, vi (0 : Int32)] [(.ref bs), (.int (2 : Int32))]) := fun t_ k_ => go88 t_ (st89 t_ k_)
  obtain ⟨cl91, Ar91, -, Sz91, Nn91, -, -⟩ := id V80
  have go92 : Go p e below s₁ F0 T89 (mkF m 227 #[vr a1, vr a2, vi (0 : Int32), vi hs, vi (31 : Int32), vi sl, vi (0 : Int32)] [(.int (0 : Int32))]) := by
    intro t_ k_
    refine go90 t_ ?_
    refine o_len X89 hx hZ e89 Ar91 Sz91 Nn91 (hb hby d4_217) ?_
    refine o_icmpYes X89 hx (hb hby d4_218) (pc' := 225) rfl (by decide) (flt (by decide : ¬ ((32 : Int32) < (2 : Int32)))).2.2.2 ?_
    refine o_iload X89 hx (hb hby d4_225) rfl ?_
    exact k_
  obtain ⟨fs, hr, hrun, hended, hW, hsame⟩ := X89.leave (v := some (.int (0 : Int32))) (fun h => by rw [Bd.returns] at h; cases h)
  refine ⟨_, _, pre0 _ (go92 _ ?_), hrun, hended, _, _, rfl, ?_, ⟨_, rfl⟩, hW, hsame.mono (by decide) (by decide)⟩
  · skip
    exact retI X89 hx Bd.returns (hb hby d4_227) hr
  · show Q4_a2 Z a1 a2 bw bh bs kw kh ks k2 x0 x1 h0 n0 _ T89.heap _
    rw [e89]
    have F93 : Fld Z h80 a1 c_0 "width" "I" (.int (2 : Int32)) := (((F53.keep Kc62 (ninS naw nin0)).other W71 (Or.inl nah)).other W80 (Or.inl nas))
    have F94 : Fld Z h80 a1 c_0 "words" "[J" (.ref bw) := (((F49.keep Kc62 (ninS naw nin0)).other W71 (Or.inl nah)).other W80 (Or.inl nas))
    have F95 : Fld Z h80 a1 c_0 "hashes" "[I" (.ref bh) := ((F65.other W71 (Or.inl nah)).other W80 (Or.inl nas))
    have F96 : Arv Z h80 bw kw .long (32 : Int32) ((.long x0) :: (.long x1) :: own_zl 30) (.long (0 : Int64)) := ((V62.other W71 nwh).other W80 nws)
    have F97 : Arv Z h80 bh kh .int (16 : Int32) ((.int hs) :: own_zi 15) (.int (0 : Int32)) := (V71.other W80 nhs)
    exact ⟨hs, sl, rfl, N80, K81, F93, F94, F95, F87, F83, F96, F97, V80, h_hs, h_sl⟩

theorem d3_0 : decode prog_63_method_4_code 0 = .ok (.aload_n 0, 1) := by decide +kernel
theorem d3_1 : decode prog_63_method_4_code 1 = .ok (.aload_n 1, 1) := by decide +kernel
theorem d3_2 : decode prog_63_method_4_code 2 = .ok (.iconst 0, 1) := by decide +kernel
theorem d3_3 : decode prog_63_method_4_code 3 = .ok (.invokevirtual 27, 3) := by decide +kernel
theorem d3_6 : decode prog_63_method_4_code 6 = .ok (.ireturn, 1) := by decide +kernel
theorem pn_3_a2 : plainName "com/example/grammar_game_solver/grammargamesolver/summary/NumberedSets" = true := by first | (simp [plainName, overriddenIn]; done) | decide +kernel
theorem pd3_a2_0 : parseMethodDescriptor "([JI)I" = some ⟨[(.array .long), .int], some .int⟩ := by decide +kernel
theorem ef_3_a2 (m : MethodId) (x0 : Addr) (x1 : Addr) : entryFrame m #[(.ref x0), (.ref x1)] 2 = mkF m 0 #[vr x0, vr x1] [] := by first | (simp [entryFrame, mkF, argsToLocals, Value.category]; done) | rfl
def Q3_a2 (Z : State) (a1 : Addr) (a2 : Addr) (bw : Addr) (bh : Addr) (bs : Addr) (kw : ClassId) (kh : ClassId) (ks : ClassId) (k2 : ClassId) (x0 : Int64) (x1 : Int64) (h0 : Heap) (n0 : Nat) (v : Option Value) (h : Heap) (L : List Loc) : Prop := ∃ hs : Int32, ∃ sl : Int32, v = some (.int (0 : Int32)) ∧ Fr n0 L ∧ Keep h0 h [a1, bw, bh, bs] ∧ Fld Z h a1 c_0 "width" "I" (.int (2 : Int32)) ∧ Fld Z h a1 c_0 "words" "[J" (.ref bw) ∧ Fld Z h a1 c_0 "hashes" "[I" (.ref bh) ∧ Fld Z h a1 c_0 "slots" "[I" (.ref bs) ∧ Fld Z h a1 c_0 "count" "I" (.int (1 : Int32)) ∧ Arv Z h bw kw .long (32 : Int32) ((.long x0) :: (.long x1) :: own_zl 30) (.long (0 : Int64)) ∧ Arv Z h bh kh .int (16 : Int32) ((.int hs) :: own_zi 15) (.int (0 : Int32)) ∧ Arv Z h bs ks .int (32 : Int32) (own_sl sl) (.int (0 : Int32)) ∧ (hs = (((31 : Int32) * ((31 : Int32) + (f5 x0))) + (f5 x1))) ∧ (sl = (f6 hs (31 : Int32)))
set_option maxRecDepth 65536 in
set_option maxHeartbeats 40000000 in
theorem rm3_a2 (l : Launch) (Z : State) (a0 : Array Value) (hw : ∀ d ∈ tables_1, d.before a0 Z = true) (ws : List Jvm.Cond) (a1 : Addr) (a2 : Addr) (bw : Addr) (bh : Addr) (bs : Addr) (kw : ClassId) (kh : ClassId) (ks : ClassId) (k2 : ClassId) (x0 : Int64) (x1 : Int64) (h0 : Heap) (n0 : Nat) (Z0 : n0 ≤ h0.size) (E0 : Exa Z h0 a1 c_0) (Fwi : Fld Z h0 a1 c_0 "width" "I" (.int (2 : Int32))) (Fwo : Fld Z h0 a1 c_0 "words" "[J" (.ref bw)) (Fha : Fld Z h0 a1 c_0 "hashes" "[I" (.ref bh)) (Fsl : Fld Z h0 a1 c_0 "slots" "[I" (.ref bs)) (Fco : Fld Z h0 a1 c_0 "count" "I" (.int (0 : Int32))) (Vw : Arv Z h0 bw kw .long (32 : Int32) (own_zl 32) (.long (0 : Int64))) (Vh : Arv Z h0 bh kh .int (16 : Int32) (own_zi 16) (.int (0 : Int32))) (Vs : Arv Z h0 bs ks .int (32 : Int32) (own_zi 32) (.int (0 : Int32))) (V2 : Arv Z h0 a2 k2 .long (2 : Int32) [(.long x0), (.long x1)] (.long (0 : Int64))) (g1 : n0 ≤ a1) (gw : n0 ≤ bw) (gh : n0 ≤ bh) (gs : n0 ≤ bs) (naw : a1 ≠ bw) (nah : a1 ≠ bh) (nas : a1 ≠ bs) (n2w : a2 ≠ bw) (n2h : a2 ≠ bh) (n2s : a2 ≠ bs) (n12 : a1 ≠ a2) (nwh : bw ≠ bh) (nws : bw ≠ bs) (nhs : bh ≠ bs) :
    MetFree l y_4 (head1 (Jvm.Cond.code y_4 prog_63_method_4_code 2 (some .int) :: ws) ({ frames := 2, cells := 0, slots := 0, locals := 36 } : Room)) (fun a U => a = #[(.ref a1), (.ref a2)] ∧ Z.Warmed39 U.vm ∧ U.heap = h0) (fun _ _ _ _ _ => True) (fun _ U o U' => ∃ v L, o = .returned v ∧ Q3_a2 Z a1 a2 bw bh bs kw kh ks k2 x0 x1 h0 n0 v U'.heap L ∧ FrameEnd U o U' L ({ frames := 2, cells := 0, slots := 0, locals := 36 } : Room).cells ({ frames := 2, cells := 0, slots := 0, locals := 36 } : Room).slots) := by
  refine MetFree.of_bodySF (plainFor_of_name pn_3_a2) hisR ?_
  intro p e s m args below meth c s₁ Bd hml0 hP hK
  obtain ⟨rfl, hZ, hh⟩ := hP
  have hx := Bd.exec
  have hby := Bd.bytes
  have hml : c.maxLocals = 2 := hml0
  have hown : s.vm.findClass "com/example/grammar_game_solver/grammargamesolver/summary/NumberedSets" = some m.cls := findClass_of_methodNamed Bd.named
  have hnm := (name_of_methodNamed Bd.named Bd.method).1
  have X0 : Stand p l e ({ frames := 2, cells := 0, slots := 0, locals := 36 } : Room) s m #[(.ref a1), (.ref a2)] below meth c s₁ [] 0 0 := Stand.of_body Bd
  have e0 : s₁.heap = h0 := by rw [← hh, Bd.state]; rfl
  have N0 := Fr.nil n0
  have K0 : Keep h0 h0 [a1, bw, bh, bs] := Keep.refl h0 [a1, bw, bh, bs]
  obtain ⟨F0, hF0⟩ : ∃ F : JFrame, F = entryFrame m #[(.ref a1), (.ref a2)] 2 := ⟨_, rfl⟩
  have pre0 : ∀ t, Steps p.tables e below (s₁.setTop F0) t → Steps p.tables e below (s₁.setTop (entryFrame m #[(.ref a1), (.ref a2)] 2)) t := fun t k => hF0 ▸ k
  have go0 : Go p e below s₁ F0 s₁ (mkF m 0 #[vr a1, vr a2] []) := fun t k => castTop (hF0.trans (ef_3_a2 m a1 a2)) k
  have go1 : Go p e below s₁ F0 s₁ (mkF m 3 #[vr a1, vr a2] [(.int (0 : Int32)), (.ref a2), (.ref a1)]) := by
    intro t_ k_
    refine go0 t_ ?_
    refine o_aloadN X0 hx (hb hby d3_0) rfl rfl ?_
    refine o_aloadN X0 hx (hb hby d3_1) rfl rfl ?_
    refine o_iconst X0 hx (hb hby d3_2) (v := 0) rfl ?_
    exact k_
  obtain ⟨cq2, q2, q2'⟩ := E0.cell
  obtain ⟨_, _, ⟨T2, L2, k2, n2⟩, -, X2, ⟨Lc2, hQ2, l2, y2, z2⟩, st2⟩ := X0.privateBack hx (y := y_3) hown (mvT hZ (own_w hw 24 rfl)) (mvT hZ (own_w hw 25 rfl)) (own_selp (mvT hZ (own_w hw 1 rfl)) (mvP hZ (own_w hw 26 rfl)) (mvT hZ (own_w hw 25 rfl)) (by decide)) (Cond.privateMethod_at (mvP hZ (own_w hw 26 rfl) (args := #[]))) (mvT hZ (own_w hw 27 rfl)) (by decide) (backOf (W := 0) (rm4_a2 l Z a0 hw [] a1 a2 bw bh bs kw kh ks k2 x0 x1 h0 n0 Z0 E0 Fwi Fwo Fha Fsl Fco Vw Vh Vs V2 g1 gw gh gs naw nah nas n2w n2h n2s n12 nwh nws nhs) hZ (own_w hw 27 rfl) (own_w hw 2 rfl) (by decide) (by decide)) (g := (mkF m 3 #[vr a1, vr a2] [(.int (0 : Int32)), (.ref a2), (.ref a1)])) rfl (by rw [hml]; rfl) (Steps.refl _) (a := a1) (by rw [e0]; exact q2) q2' (argsL := [(.ref a2), (.int (0 : Int32))]) (rest := []) (lenOf pd3_a2_0 rfl) rfl (by show 2 * 0 + _ ≤ _; exact Nat.le_of_eq rfl) (hb hby d3_3) (fun _ _ => ⟨rfl, e0, (by decide : 0 + 0 ≤ _), (by decide : 0 + 0 ≤ _)⟩)
  dsimp only [Pt.U, Pt.locs, Pt.cells, Pt.slots] at X2 l2 y2 z2 st2 hQ2
  subst l2 y2 z2
  obtain ⟨hs_2, sl_2, rfl, Nq2, Kc2, Fwi_2, Fwo_2, Fha_2, Fsl_2, Fco_2, Vw_2, Vh_2, Vs_2, hhs_2, hsl_2⟩ := hQ2
  have N2 := Fr.app N0 Nq2
  have K3 : Keep h0 T2.heap [a1, bw, bh, bs] := K0.trans Kc2 (allS (Or.inl (List.mem_of_getElem? (i := 0) rfl)) (allS (Or.inl (List.mem_of_getElem? (i := 1) rfl)) (allS (Or.inl (List.mem_of_getElem? (i := 2) rfl)) (allS (Or.inl (List.mem_of_getElem? (i := 3) rfl)) all0))))
  have Z3 : n0 ≤ T2.heap.size := Nat.le_trans Z0 Kc2.1
  have go4 : Go p e below s₁ F0 T2 (mkF m 6 #[vr a1, vr a2] [(.int (0 : Int32))]) := fun t_ k_ => go1 t_ (st2.trans k_)
  obtain ⟨fs, hr, hrun, hended, hW, hsame⟩ := X2.leave (v := some (.int (0 : Int32))) (fun h => by rw [Bd.returns] at h; cases h)
  refine ⟨_, _, pre0 _ (go4 _ ?_), hrun, hended, _, _, rfl, ?_, ⟨_, rfl⟩, hW, hsame.mono (by decide) (by decide)⟩
  · skip
    exact retI X2 hx Bd.returns (hb hby d3_6) hr
  · show Q3_a2 Z a1 a2 bw bh bs kw kh ks k2 x0 x1 h0 n0 _ T2.heap _
    exact ⟨hs_2, sl_2, rfl, N2, K3, Fwi_2, Fwo_2, Fha_2, Fsl_2, Fco_2, Vw_2, Vh_2, Vs_2, (by first | assumption | decide | omega), (by first | assumption | decide | omega)⟩

theorem d8_0 : decode prog_63_method_10_code 0 = .ok (.iload_n 1, 1) := by decide +kernel
theorem d8_1 : decode prog_63_method_10_code 1 = .ok (.aload_n 0, 1) := by decide +kernel
theorem d8_2 : decode prog_63_method_10_code 2 = .ok (.getfield 7, 3) := by decide +kernel
theorem d8_5 : decode prog_63_method_10_code 5 = .ok (.imul, 1) := by decide +kernel
theorem d8_6 : decode prog_63_method_10_code 6 = .ok (.istore 4, 2) := by decide +kernel
theorem d8_8 : decode prog_63_method_10_code 8 = .ok (.iconst 0, 1) := by decide +kernel
theorem d8_9 : decode prog_63_method_10_code 9 = .ok (.istore 5, 2) := by decide +kernel
theorem d8_11 : decode prog_63_method_10_code 11 = .ok (.iload 5, 2) := by decide +kernel
theorem d8_13 : decode prog_63_method_10_code 13 = .ok (.aload_n 0, 1) := by decide +kernel
theorem d8_14 : decode prog_63_method_10_code 14 = .ok (.getfield 7, 3) := by decide +kernel
theorem d8_17 : decode prog_63_method_10_code 17 = .ok (.if_icmp .ge 31, 3) := by decide +kernel
theorem d8_20 : decode prog_63_method_10_code 20 = .ok (.aload_n 0, 1) := by decide +kernel
theorem d8_21 : decode prog_63_method_10_code 21 = .ok (.getfield 13, 3) := by decide +kernel
theorem d8_24 : decode prog_63_method_10_code 24 = .ok (.iload 4, 2) := by decide +kernel
theorem d8_26 : decode prog_63_method_10_code 26 = .ok (.iload 5, 2) := by decide +kernel
theorem d8_28 : decode prog_63_method_10_code 28 = .ok (.iadd, 1) := by decide +kernel
theorem d8_29 : decode prog_63_method_10_code 29 = .ok (.laload, 1) := by decide +kernel
theorem d8_30 : decode prog_63_method_10_code 30 = .ok (.aload_n 2, 1) := by decide +kernel
theorem d8_31 : decode prog_63_method_10_code 31 = .ok (.iload_n 3, 1) := by decide +kernel
theorem d8_32 : decode prog_63_method_10_code 32 = .ok (.iload 5, 2) := by decide +kernel
theorem d8_34 : decode prog_63_method_10_code 34 = .ok (.iadd, 1) := by decide +kernel
theorem d8_35 : decode prog_63_method_10_code 35 = .ok (.laload, 1) := by decide +kernel
theorem d8_36 : decode prog_63_method_10_code 36 = .ok (.lcmp, 1) := by decide +kernel
theorem d8_37 : decode prog_63_method_10_code 37 = .ok (.ifCond .eq 5, 3) := by decide +kernel
theorem d8_40 : decode prog_63_method_10_code 40 = .ok (.iconst 0, 1) := by decide +kernel
theorem d8_41 : decode prog_63_method_10_code 41 = .ok (.ireturn, 1) := by decide +kernel
theorem d8_42 : decode prog_63_method_10_code 42 = .ok (.iinc 5 1, 3) := by decide +kernel
theorem d8_45 : decode prog_63_method_10_code 45 = .ok (.goto (-34), 3) := by decide +kernel
theorem d8_48 : decode prog_63_method_10_code 48 = .ok (.iconst 1, 1) := by decide +kernel
theorem d8_49 : decode prog_63_method_10_code 49 = .ok (.ireturn, 1) := by decide +kernel
theorem pn_8_2 : plainName "com/example/grammar_game_solver/grammargamesolver/summary/NumberedSets" = true := by first | (simp [plainName, overriddenIn]; done) | decide +kernel
theorem ef_8_2 (m : MethodId) (x0 : Addr) (x2 : Addr) : entryFrame m #[(.ref x0), (.int (0 : Int32)), (.ref x2), (.int (0 : Int32))] 6 = mkF m 0 #[vr x0, vi (0 : Int32), vr x2, vi (0 : Int32), .unset, .unset] [] := by first | (simp [entryFrame, mkF, argsToLocals, Value.category]; done) | rfl
def f8_2 (x0 : Int64) (x1 : Int64) (y0 : Int64) (y1 : Int64) : Int32 := (if x0 = y0 then (if x1 = y1 then (1 : Int32) else (0 : Int32)) else (0 : Int32))
def Q8_2 (Z : State) (a1 : Addr) (a3 : Addr) (bw : Addr) (kw : ClassId) (k2 : ClassId) (x0 : Int64) (x1 : Int64) (y0 : Int64) (y1 : Int64) (h0 : Heap) (n0 : Nat) (v : Option Value) (h : Heap) (L : List Loc) : Prop := v = some (.int (f8_2 x0 x1 y0 y1)) ∧ Fr n0 L ∧ h = h0
set_option maxRecDepth 65536 in
set_option maxHeartbeats 40000000 in
theorem rm8_2 (l : Launch) (Z : State) (a0 : Array Value) (hw : ∀ d ∈ tables_1, d.before a0 Z = true) (ws : List Jvm.Cond) (a1 : Addr) (a3 : Addr) (bw : Addr) (kw : ClassId) (k2 : ClassId) (x0 : Int64) (x1 : Int64) (y0 : Int64) (y1 : Int64) (h0 : Heap) (n0 : Nat) (Z0 : n0 ≤ h0.size) (Fwi : Fld Z h0 a1 c_0 "width" "I" (.int (2 : Int32))) (Fwo : Fld Z h0 a1 c_0 "words" "[J" (.ref bw)) (Vw : Arv Z h0 bw kw .long (32 : Int32) ((.long x0) :: (.long x1) :: own_zl 30) (.long (0 : Int64))) (V3 : Arv Z h0 a3 k2 .long (2 : Int32) [(.long y0), (.long y1)] (.long (0 : Int64))) :
    MetFree l y_5 (head1 (Jvm.Cond.code y_5 prog_63_method_10_code 6 (some .boolean) :: ws) ({ frames := 0, cells := 0, slots := 0, locals := 0 } : Room)) (fun a U => a = #[(.ref a1), (.int (0 : Int32)), (.ref a3), (.int (0 : Int32))] ∧ Z.Warmed39 U.vm ∧ U.heap = h0) (fun _ _ _ _ _ => True) (fun _ U o U' => ∃ v L, o = .returned v ∧ Q8_2 Z a1 a3 bw kw k2 x0 x1 y0 y1 h0 n0 v U'.heap L ∧ FrameEnd U o U' L ({ frames := 0, cells := 0, slots := 0, locals := 0 } : Room).cells ({ frames := 0, cells := 0, slots := 0, locals := 0 } : Room).slots) := by
  refine MetFree.of_bodySF (plainFor_of_name pn_8_2) hisR ?_
  intro p e s m args below meth c s₁ Bd hml0 hP hK
  obtain ⟨rfl, hZ, hh⟩ := hP
  have hx := Bd.exec
  have hby := Bd.bytes
  have hml : c.maxLocals = 6 := hml0
  have hown : s.vm.findClass "com/example/grammar_game_solver/grammargamesolver/summary/NumberedSets" = some m.cls := findClass_of_methodNamed Bd.named
  have hnm := (name_of_methodNamed Bd.named Bd.method).1
  have X0 : Stand p l e ({ frames := 0, cells := 0, slots := 0, locals := 0 } : Room) s m #[(.ref a1), (.int (0 : Int32)), (.ref a3), (.int (0 : Int32))] below meth c s₁ [] 0 0 := Stand.of_body Bd
  have e0 : s₁.heap = h0 := by rw [← hh, Bd.state]; rfl
  have N0 := Fr.nil n0
  obtain ⟨F0, hF0⟩ : ∃ F : JFrame, F = entryFrame m #[(.ref a1), (.int (0 : Int32)), (.ref a3), (.int (0 : Int32))] 6 := ⟨_, rfl⟩
  have pre0 : ∀ t, Steps p.tables e below (s₁.setTop F0) t → Steps p.tables e below (s₁.setTop (entryFrame m #[(.ref a1), (.int (0 : Int32)), (.ref a3), (.int (0 : Int32))] 6)) t := fun t k => hF0 ▸ k
  have go0 : Go p e below s₁ F0 s₁ (mkF m 0 #[vr a1, vi (0 : Int32), vr a3, vi (0 : Int32), .unset, .unset] []) := fun t k => castTop (hF0.trans (ef_8_2 m a1 a3)) k
  have go1 : Go p e below s₁ F0 s₁ (mkF m 2 #[vr a1, vi (0 : Int32), vr a3, vi (0 : Int32), .unset, .unset] [(.ref a1), (.int (0 : Int32))]) := by
    intro t_ k_
    refine go0 t_ ?_
    refine o_iloadN X0 hx (hb hby d8_0) rfl ?_
    refine o_aloadN X0 hx (hb hby d8_1) rfl rfl ?_
    exact k_
  obtain ⟨T2, X2, e2, st2⟩ := getF X0 hx hZ hown (host := "") (Or.inl (own_w hw 9 rfl)) Via.refl e0 Fwi (g := (mkF m 2 #[vr a1, vi (0 : Int32), vr a3, vi (0 : Int32), .unset, .unset] [(.ref a1), (.int (0 : Int32))])) rfl rfl (hb hby d8_2)
  have go3 : Go p e below s₁ F0 T2 (mkF m 5 #[vr a1, vi (0 : Int32), vr a3, vi (0 : Int32), .unset, .unset] [(.int (2 : Int32)), (.int (0 : Int32))]) := fun t_ k_ => go1 t_ (st2 t_ k_)
  have go4 : Go p e below s₁ F0 T2 (mkF m 14 #[vr a1, vi (0 : Int32), vr a3, vi (0 : Int32), vi (0 : Int32), vi (0 : Int32)] [(.ref a1), (.int (0 : Int32))]) := by
    intro t_ k_
    refine go3 t_ ?_
    refine o_imulE X2 hx (hb hby d8_5) (v := 0) rfl ?_
    refine o_istore X2 hx (hb hby d8_6) (L' := #[vr a1, vi (0 : Int32), vr a3, vi (0 : Int32), vi (0 : Int32), .unset]) rfl ?_
    refine o_iconst X2 hx (hb hby d8_8) (v := 0) rfl ?_
    refine o_istore X2 hx (hb hby d8_9) (L' := #[vr a1, vi (0 : Int32), vr a3, vi (0 : Int32), vi (0 : Int32), vi (0 : Int32)]) rfl ?_
    refine o_iload X2 hx (hb hby d8_11) rfl ?_
    refine o_aloadN X2 hx (hb hby d8_13) rfl rfl ?_
    exact k_
  obtain ⟨T5, X5, e5, st5⟩ := getF X2 hx hZ hown (host := "") (Or.inl (own_w hw 9 rfl)) Via.refl e2 Fwi (g := (mkF m 14 #[vr a1, vi (0 : Int32), vr a3, vi (0 : Int32), vi (0 : Int32), vi (0 : Int32)] [(.ref a1), (.int (0 : Int32))])) rfl rfl (hb hby d8_14)
  have go6 : Go p e below s₁ F0 T5 (mkF m 17 #[vr a1, vi (0 : Int32), vr a3, vi (0 : Int32), vi (0 : Int32), vi (0 : Int32)] [(.int (2 : Int32)), (.int (0 : Int32))]) := fun t_ k_ => go4 t_ (st5 t_ k_)
  have go7 : Go p e below s₁ F0 T5 (mkF m 21 #[vr a1, vi (0 : Int32), vr a3, vi (0 : Int32), vi (0 : Int32), vi (0 : Int32)] [(.ref a1)]) := by
    intro t_ k_
    refine go6 t_ ?_
    refine o_icmpNo X5 hx (hb hby d8_17) (tlt (by decide : (0 : Int32) < (2 : Int32))).2.1 ?_
    refine o_aloadN X5 hx (hb hby d8_20) rfl rfl ?_
    exact k_
  obtain ⟨T8, X8, e8, st8⟩ := getF X5 hx hZ hown (host := "") (Or.inl (own_w hw 12 rfl)) Via.refl e5 Fwo (g := (mkF m 21 #[vr a1, vi (0 : Int32), vr a3, vi (0 : Int32), vi (0 : Int32), vi (0 : Int32)] [(.ref a1)])) rfl rfl (hb hby d8_21)
  have go9 : Go p e below s₁ F0 T8 (mkF m 24 #[vr a1, vi (0 : Int32), vr a3, vi (0 : Int32), vi (0 : Int32), vi (0 : Int32)] [(.ref bw)]) := fun t_ k_ => go7 t_ (st8 t_ k_)
  have go10 : Go p e below s₁ F0 T8 (mkF m 29 #[vr a1, vi (0 : Int32), vr a3, vi (0 : Int32), vi (0 : Int32), vi (0 : Int32)] [(.int (0 : Int32)), (.ref bw)]) := by
    intro t_ k_
    refine go9 t_ ?_
    refine o_iload X8 hx (hb hby d8_24) rfl ?_
    refine o_iload X8 hx (hb hby d8_26) rfl ?_
    refine o_iaddE X8 hx (hb hby d8_28) (v := 0) rfl ?_
    exact k_
  obtain ⟨cl11, Ar11, -, Sz11, Nn11, Hs11, -⟩ := id Vw
  have hin11 : ¬ ((0 : Int32) < 0 ∨ cl11.slots.size ≤ ((0 : Int32)).toNatClampNeg) := inb_of Sz11 ⟨by decide, by decide⟩
  have hat11 : cl11.slots[((0 : Int32)).toNatClampNeg]? = some (.long x0) := Hs11.at hin11 rfl
  have go12 : Go p e below s₁ F0 T8 (mkF m 35 #[vr a1, vi (0 : Int32), vr a3, vi (0 : Int32), vi (0 : Int32), vi (0 : Int32)] [(.int (0 : Int32)), (.ref a3), (.long x0)]) := by
    intro t_ k_
    refine go10 t_ ?_
    refine o_laload X8 hx hZ e8 Ar11 hin11 hat11 (hb hby d8_29) ?_
    refine o_aloadN X8 hx (hb hby d8_30) rfl rfl ?_
    refine o_iloadN X8 hx (hb hby d8_31) rfl ?_
    refine o_iload X8 hx (hb hby d8_32) rfl ?_
    refine o_iaddE X8 hx (hb hby d8_34) (v := 0) rfl ?_
    exact k_
  obtain ⟨cl13, Ar13, -, Sz13, Nn13, Hs13, -⟩ := id V3
  have hin13 : ¬ ((0 : Int32) < 0 ∨ cl13.slots.size ≤ ((0 : Int32)).toNatClampNeg) := inb_of Sz13 ⟨by decide, by decide⟩
  have hat13 : cl13.slots[((0 : Int32)).toNatClampNeg]? = some (.long y0) := Hs13.at hin13 rfl
  have go14 : Go p e below s₁ F0 T8 (mkF m 37 #[vr a1, vi (0 : Int32), vr a3, vi (0 : Int32), vi (0 : Int32), vi (0 : Int32)] [(.int (lcmpW x0 y0))]) := by
    intro t_ k_
    refine go12 t_ ?_
    refine o_laload X8 hx hZ e8 Ar13 hin13 hat13 (hb hby d8_35) ?_
    refine o_lcmp X8 hx (hb hby d8_36) ?_
    exact k_
  by_cases hc37_15 : x0 = y0
  · skip
    have go16 : Go p e below s₁ F0 T8 (mkF m 14 #[vr a1, vi (0 : Int32), vr a3, vi (0 : Int32), vi (0 : Int32), vi (1 : Int32)] [(.ref a1), (.int (1 : Int32))]) := by
      intro t_ k_
      refine go14 t_ ?_
      refine o_ifYes X8 hx (hb hby d8_37) (pc' := 42) rfl (by decide) ((if0 _ _).trans (teq ((lw_eq _ _).mpr hc37_15)).1) ?_
      refine o_iinc X8 hx (hb hby d8_42) rfl (L' := #[vr a1, vi (0 : Int32), vr a3, vi (0 : Int32), vi (0 : Int32), vi (1 : Int32)]) rfl ?_
      refine o_goto X8 hx (hb hby d8_45) (pc' := 11) rfl (by decide) ?_
      refine o_iload X8 hx (hb hby d8_11) rfl ?_
      refine o_aloadN X8 hx (hb hby d8_13) rfl rfl ?_
      exact k_
    obtain ⟨T17, X17, e17, st17⟩ := getF X8 hx hZ hown (host := "") (Or.inl (own_w hw 9 rfl)) Via.refl e8 Fwi (g := (mkF m 14 #[vr a1, vi (0 : Int32), vr a3, vi (0 : Int32), vi (0 : Int32), vi (1 : Int32)] [(.ref a1), (.int (1 : Int32))])) rfl rfl (hb hby d8_14)
    have go18 : Go p e below s₁ F0 T17 (mkF m 17 #[vr a1, vi (0 : Int32), vr a3, vi (0 : Int32), vi (0 : Int32), vi (1 : Int32)] [(.int (2 : Int32)), (.int (1 : Int32))]) := fun t_ k_ => go16 t_ (st17 t_ k_)
    have go19 : Go p e below s₁ F0 T17 (mkF m 21 #[vr a1, vi (0 : Int32), vr a3, vi (0 : Int32), vi (0 : Int32), vi (1 : Int32)] [(.ref a1)]) := by
      intro t_ k_
      refine go18 t_ ?_
      refine o_icmpNo X17 hx (hb hby d8_17) (tlt (by decide : (1 : Int32) < (2 : Int32))).2.1 ?_
      refine o_aloadN X17 hx (hb hby d8_20) rfl rfl ?_
      exact k_
    obtain ⟨T20, X20, e20, st20⟩ := getF X17 hx hZ hown (host := "") (Or.inl (own_w hw 12 rfl)) Via.refl e17 Fwo (g := (mkF m 21 #[vr a1, vi (0 : Int32), vr a3, vi (0 : Int32), vi (0 : Int32), vi (1 : Int32)] [(.ref a1)])) rfl rfl (hb hby d8_21)
    have go21 : Go p e below s₁ F0 T20 (mkF m 24 #[vr a1, vi (0 : Int32), vr a3, vi (0 : Int32), vi (0 : Int32), vi (1 : Int32)] [(.ref bw)]) := fun t_ k_ => go19 t_ (st20 t_ k_)
    have go22 : Go p e below s₁ F0 T20 (mkF m 29 #[vr a1, vi (0 : Int32), vr a3, vi (0 : Int32), vi (0 : Int32), vi (1 : Int32)] [(.int (1 : Int32)), (.ref bw)]) := by
      intro t_ k_
      refine go21 t_ ?_
      refine o_iload X20 hx (hb hby d8_24) rfl ?_
      refine o_iload X20 hx (hb hby d8_26) rfl ?_
      refine o_iaddE X20 hx (hb hby d8_28) (v := 1) rfl ?_
      exact k_
    obtain ⟨cl23, Ar23, -, Sz23, Nn23, Hs23, -⟩ := id Vw
    have hin23 : ¬ ((1 : Int32) < 0 ∨ cl23.slots.size ≤ ((1 : Int32)).toNatClampNeg) := inb_of Sz23 ⟨by decide, by decide⟩
    have hat23 : cl23.slots[((1 : Int32)).toNatClampNeg]? = some (.long x1) := Hs23.at hin23 rfl
    have go24 : Go p e below s₁ F0 T20 (mkF m 35 #[vr a1, vi (0 : Int32), vr a3, vi (0 : Int32), vi (0 : Int32), vi (1 : Int32)] [(.int (1 : Int32)), (.ref a3), (.long x1)]) := by
      intro t_ k_
      refine go22 t_ ?_
      refine o_laload X20 hx hZ e20 Ar23 hin23 hat23 (hb hby d8_29) ?_
      refine o_aloadN X20 hx (hb hby d8_30) rfl rfl ?_
      refine o_iloadN X20 hx (hb hby d8_31) rfl ?_
      refine o_iload X20 hx (hb hby d8_32) rfl ?_
      refine o_iaddE X20 hx (hb hby d8_34) (v := 1) rfl ?_
      exact k_
    obtain ⟨cl25, Ar25, -, Sz25, Nn25, Hs25, -⟩ := id V3
    have hin25 : ¬ ((1 : Int32) < 0 ∨ cl25.slots.size ≤ ((1 : Int32)).toNatClampNeg) := inb_of Sz25 ⟨by decide, by decide⟩
    have hat25 : cl25.slots[((1 : Int32)).toNatClampNeg]? = some (.long y1) := Hs25.at hin25 rfl
    have go26 : Go p e below s₁ F0 T20 (mkF m 37 #[vr a1, vi (0 : Int32), vr a3, vi (0 : Int32), vi (0 : Int32), vi (1 : Int32)] [(.int (lcmpW x1 y1))]) := by
      intro t_ k_
      refine go24 t_ ?_
      refine o_laload X20 hx hZ e20 Ar25 hin25 hat25 (hb hby d8_35) ?_
      refine o_lcmp X20 hx (hb hby d8_36) ?_
      exact k_
    by_cases hc37_27 : x1 = y1
    · skip
      have go28 : Go p e below s₁ F0 T20 (mkF m 14 #[vr a1, vi (0 : Int32), vr a3, vi (0 : Int32), vi (0 : Int32), vi (2 : Int32)] [(.ref a1), (.int (2 : Int32))]) := by
        intro t_ k_
        refine go26 t_ ?_
        refine o_ifYes X20 hx (hb hby d8_37) (pc' := 42) rfl (by decide) ((if0 _ _).trans (teq ((lw_eq _ _).mpr hc37_27)).1) ?_
        refine o_iinc X20 hx (hb hby d8_42) rfl (L' := #[vr a1, vi (0 : Int32), vr a3, vi (0 : Int32), vi (0 : Int32), vi (2 : Int32)]) rfl ?_
        refine o_goto X20 hx (hb hby d8_45) (pc' := 11) rfl (by decide) ?_
        refine o_iload X20 hx (hb hby d8_11) rfl ?_
        refine o_aloadN X20 hx (hb hby d8_13) rfl rfl ?_
        exact k_
      obtain ⟨T29, X29, e29, st29⟩ := getF X20 hx hZ hown (host := "") (Or.inl (own_w hw 9 rfl)) Via.refl e20 Fwi (g := (mkF m 14 #[vr a1, vi (0 : Int32), vr a3, vi (0 : Int32), vi (0 : Int32), vi (2 : Int32)] [(.ref a1), (.int (2 : Int32))])) rfl rfl (hb hby d8_14)
      have go30 : Go p e below s₁ F0 T29 (mkF m 17 #[vr a1, vi (0 : Int32), vr a3, vi (0 : Int32), vi (0 : Int32), vi (2 : Int32)] [(.int (2 : Int32)), (.int (2 : Int32))]) := fun t_ k_ => go28 t_ (st29 t_ k_)
      have go31 : Go p e below s₁ F0 T29 (mkF m 49 #[vr a1, vi (0 : Int32), vr a3, vi (0 : Int32), vi (0 : Int32), vi (2 : Int32)] [(.int (1 : Int32))]) := by
        intro t_ k_
        refine go30 t_ ?_
        refine o_icmpYes X29 hx (hb hby d8_17) (pc' := 48) rfl (by decide) (flt (by decide : ¬ ((2 : Int32) < (2 : Int32)))).2.1 ?_
        refine o_iconst X29 hx (hb hby d8_48) (v := 1) rfl ?_
        exact k_
      obtain ⟨fs, hr, hrun, hended, hW, hsame⟩ := X29.leave (v := some (.int (1 : Int32))) (fun h => by rw [Bd.returns] at h; cases h)
      refine ⟨_, _, pre0 _ (go31 _ ?_), hrun, hended, _, _, rfl, ?_, ⟨_, rfl⟩, hW, hsame.mono (by decide) (by decide)⟩
      · skip
        exact retN X29 hx (t := .boolean) Bd.returns (by simp) (hb hby d8_49) hr
      · show Q8_2 Z a1 a3 bw kw k2 x0 x1 y0 y1 h0 n0 _ T29.heap _
        rw [e29]
        exact ⟨(congrArg (fun z => some (Value.int z)) (show (1 : Int32) = f8_2 x0 x1 y0 y1 from by unfold f8_2; rw [if_pos hc37_15, if_pos hc37_27])), N0, rfl⟩
    · skip
      have go32 : Go p e below s₁ F0 T20 (mkF m 41 #[vr a1, vi (0 : Int32), vr a3, vi (0 : Int32), vi (0 : Int32), vi (1 : Int32)] [(.int (0 : Int32))]) := by
        intro t_ k_
        refine go26 t_ ?_
        refine o_ifNo X20 hx (hb hby d8_37) ((if0 _ _).trans (feq (fun q => hc37_27 ((lw_eq _ _).mp q))).1) ?_
        refine o_iconst X20 hx (hb hby d8_40) (v := 0) rfl ?_
        exact k_
      obtain ⟨fs, hr, hrun, hended, hW, hsame⟩ := X20.leave (v := some (.int (0 : Int32))) (fun h => by rw [Bd.returns] at h; cases h)
      refine ⟨_, _, pre0 _ (go32 _ ?_), hrun, hended, _, _, rfl, ?_, ⟨_, rfl⟩, hW, hsame.mono (by decide) (by decide)⟩
      · skip
        exact retN X20 hx (t := .boolean) Bd.returns (by simp) (hb hby d8_41) hr
      · show Q8_2 Z a1 a3 bw kw k2 x0 x1 y0 y1 h0 n0 _ T20.heap _
        rw [e20]
        exact ⟨(congrArg (fun z => some (Value.int z)) (show (0 : Int32) = f8_2 x0 x1 y0 y1 from by unfold f8_2; rw [if_pos hc37_15, if_neg hc37_27])), N0, rfl⟩
  · skip
    have go33 : Go p e below s₁ F0 T8 (mkF m 41 #[vr a1, vi (0 : Int32), vr a3, vi (0 : Int32), vi (0 : Int32), vi (0 : Int32)] [(.int (0 : Int32))]) := by
      intro t_ k_
      refine go14 t_ ?_
      refine o_ifNo X8 hx (hb hby d8_37) ((if0 _ _).trans (feq (fun q => hc37_15 ((lw_eq _ _).mp q))).1) ?_
      refine o_iconst X8 hx (hb hby d8_40) (v := 0) rfl ?_
      exact k_
    obtain ⟨fs, hr, hrun, hended, hW, hsame⟩ := X8.leave (v := some (.int (0 : Int32))) (fun h => by rw [Bd.returns] at h; cases h)
    refine ⟨_, _, pre0 _ (go33 _ ?_), hrun, hended, _, _, rfl, ?_, ⟨_, rfl⟩, hW, hsame.mono (by decide) (by decide)⟩
    · skip
      exact retN X8 hx (t := .boolean) Bd.returns (by simp) (hb hby d8_41) hr
    · show Q8_2 Z a1 a3 bw kw k2 x0 x1 y0 y1 h0 n0 _ T8.heap _
      rw [e8]
      exact ⟨(congrArg (fun z => some (Value.int z)) (show (0 : Int32) = f8_2 x0 x1 y0 y1 from by unfold f8_2; rw [if_neg hc37_15])), N0, rfl⟩

theorem own_neH_2 {x0 x1 y0 y1 : Int64} {hs hs2 : Int32} (h1 : hs = (((31 : Int32) * ((31 : Int32) + (f5 x0))) + (f5 x1))) (h2 : hs2 = (((31 : Int32) * ((31 : Int32) + (f5 y0))) + (f5 y1))) (h : ¬ hs = hs2) : ¬ (x0 = y0 ∧ x1 = y1) := by
  intro q
  apply h
  obtain ⟨rfl, rfl⟩ := q
  rw [h1, h2]
theorem own_neT_2 {x0 x1 y0 y1 : Int64} {hs hs2 sl t : Int32} (h1 : hs = (((31 : Int32) * ((31 : Int32) + (f5 x0))) + (f5 x1))) (h3 : sl = (f6 hs (31 : Int32))) (h2 : hs2 = (((31 : Int32) * ((31 : Int32) + (f5 y0))) + (f5 y1))) (h4 : t = (f6 hs2 (31 : Int32))) (h : ¬ t = sl) : ¬ (x0 = y0 ∧ x1 = y1) := by
  intro q
  apply h
  obtain ⟨rfl, rfl⟩ := q
  rw [h4, h3, h2, h1]
theorem own_eqT_2 {x0 x1 y0 y1 : Int64} (h : ¬ (f8_2 x0 x1 y0 y1) = (0 : Int32)) : (x0 = y0 ∧ x1 = y1) := by
  unfold f8_2 at h
  split at h
  · split at h
    · exact ⟨by assumption, by assumption⟩
    · exact absurd rfl h
  · exact absurd rfl h
theorem own_neW_2 {x0 x1 y0 y1 : Int64} (h : (f8_2 x0 x1 y0 y1) = (0 : Int32)) : ¬ (x0 = y0 ∧ x1 = y1) := by
  intro q
  unfold f8_2 at h
  rw [if_pos q.1, if_pos q.2] at h
  exact absurd h (by decide)

theorem d4_62 : decode prog_63_method_6_code 62 = .ok (.aload_n 0, 1) := by decide +kernel
theorem d4_63 : decode prog_63_method_6_code 63 = .ok (.getfield 21, 3) := by decide +kernel
theorem d4_66 : decode prog_63_method_6_code 66 = .ok (.iload 5, 2) := by decide +kernel
theorem d4_68 : decode prog_63_method_6_code 68 = .ok (.iaload, 1) := by decide +kernel
theorem d4_69 : decode prog_63_method_6_code 69 = .ok (.iconst 1, 1) := by decide +kernel
theorem d4_70 : decode prog_63_method_6_code 70 = .ok (.isub, 1) := by decide +kernel
theorem d4_71 : decode prog_63_method_6_code 71 = .ok (.istore 6, 2) := by decide +kernel
theorem d4_73 : decode prog_63_method_6_code 73 = .ok (.aload_n 0, 1) := by decide +kernel
theorem d4_74 : decode prog_63_method_6_code 74 = .ok (.getfield 17, 3) := by decide +kernel
theorem d4_77 : decode prog_63_method_6_code 77 = .ok (.iload 6, 2) := by decide +kernel
theorem d4_79 : decode prog_63_method_6_code 79 = .ok (.iaload, 1) := by decide +kernel
theorem d4_80 : decode prog_63_method_6_code 80 = .ok (.iload_n 3, 1) := by decide +kernel
theorem d4_81 : decode prog_63_method_6_code 81 = .ok (.if_icmp .ne 17, 3) := by decide +kernel
theorem d4_84 : decode prog_63_method_6_code 84 = .ok (.aload_n 0, 1) := by decide +kernel
theorem d4_85 : decode prog_63_method_6_code 85 = .ok (.iload 6, 2) := by decide +kernel
theorem d4_87 : decode prog_63_method_6_code 87 = .ok (.aload_n 1, 1) := by decide +kernel
theorem d4_88 : decode prog_63_method_6_code 88 = .ok (.iload_n 2, 1) := by decide +kernel
theorem d4_89 : decode prog_63_method_6_code 89 = .ok (.invokevirtual 41, 3) := by decide +kernel
theorem d4_92 : decode prog_63_method_6_code 92 = .ok (.ifCond .eq 6, 3) := by decide +kernel
theorem d4_95 : decode prog_63_method_6_code 95 = .ok (.iload 6, 2) := by decide +kernel
theorem d4_97 : decode prog_63_method_6_code 97 = .ok (.ireturn, 1) := by decide +kernel
theorem d4_98 : decode prog_63_method_6_code 98 = .ok (.iload 5, 2) := by decide +kernel
theorem d4_100 : decode prog_63_method_6_code 100 = .ok (.iconst 1, 1) := by decide +kernel
theorem d4_101 : decode prog_63_method_6_code 101 = .ok (.iadd, 1) := by decide +kernel
theorem d4_102 : decode prog_63_method_6_code 102 = .ok (.iload 4, 2) := by decide +kernel
theorem d4_104 : decode prog_63_method_6_code 104 = .ok (.iand, 1) := by decide +kernel
theorem d4_105 : decode prog_63_method_6_code 105 = .ok (.istore 5, 2) := by decide +kernel
theorem d4_107 : decode prog_63_method_6_code 107 = .ok (.goto (-55), 3) := by decide +kernel
theorem pn_4_b2 : plainName "com/example/grammar_game_solver/grammargamesolver/summary/NumberedSets" = true := by first | (simp [plainName, overriddenIn]; done) | decide +kernel
theorem pd4_b2_0 : parseMethodDescriptor "(J)I" = some ⟨[.long], some .int⟩ := by decide +kernel
theorem pd4_b2_1 : parseMethodDescriptor "(II)I" = some ⟨[.int, .int], some .int⟩ := by decide +kernel
theorem pd4_b2_2 : parseMethodDescriptor "(I[JI)Z" = some ⟨[.int, (.array .long), .int], some .boolean⟩ := by decide +kernel
theorem ef_4_b2 (m : MethodId) (x0 : Addr) (x1 : Addr) : entryFrame m #[(.ref x0), (.ref x1), (.int (0 : Int32))] 7 = mkF m 0 #[vr x0, vr x1, vi (0 : Int32), .unset, .unset, .unset, .unset] [] := by first | (simp [entryFrame, mkF, argsToLocals, Value.category]; done) | rfl
def Q4_b2 (Z : State) (a1 : Addr) (a2 : Addr) (bw : Addr) (bh : Addr) (bs : Addr) (kw : ClassId) (kh : ClassId) (ks : ClassId) (k2 : ClassId) (hs : Int32) (sl : Int32) (x0 : Int64) (x1 : Int64) (y0 : Int64) (y1 : Int64) (h0 : Heap) (n0 : Nat) (v : Option Value) (h : Heap) (L : List Loc) : Prop := ∃ n : Int32, ∃ w0 : Int64, ∃ w1 : Int64, v = some (.int n) ∧ Fr n0 L ∧ Keep h0 h [a1, bw, bh, bs] ∧ Fld Z h a1 c_0 "width" "I" (.int (2 : Int32)) ∧ Fld Z h a1 c_0 "words" "[J" (.ref bw) ∧ Arv Z h bw kw .long (32 : Int32) ((.long x0) :: (.long x1) :: (.long w0) :: (.long w1) :: own_zl 28) (.long (0 : Int64)) ∧ ((n = (0 : Int32) ∧ (x0 = y0 ∧ x1 = y1)) ∨ (n = (1 : Int32) ∧ ¬ (x0 = y0 ∧ x1 = y1) ∧ w0 = y0 ∧ w1 = y1))
set_option maxRecDepth 65536 in
set_option maxHeartbeats 40000000 in
theorem rm4_b2 (l : Launch) (Z : State) (a0 : Array Value) (hw : ∀ d ∈ tables_1, d.before a0 Z = true) (ws : List Jvm.Cond) (a1 : Addr) (a2 : Addr) (bw : Addr) (bh : Addr) (bs : Addr) (kw : ClassId) (kh : ClassId) (ks : ClassId) (k2 : ClassId) (hs : Int32) (sl : Int32) (x0 : Int64) (x1 : Int64) (y0 : Int64) (y1 : Int64) (h0 : Heap) (n0 : Nat) (Z0 : n0 ≤ h0.size) (E0 : Exa Z h0 a1 c_0) (Fwi : Fld Z h0 a1 c_0 "width" "I" (.int (2 : Int32))) (Fwo : Fld Z h0 a1 c_0 "words" "[J" (.ref bw)) (Fha : Fld Z h0 a1 c_0 "hashes" "[I" (.ref bh)) (Fsl : Fld Z h0 a1 c_0 "slots" "[I" (.ref bs)) (Fco : Fld Z h0 a1 c_0 "count" "I" (.int (1 : Int32))) (Vw : Arv Z h0 bw kw .long (32 : Int32) ((.long x0) :: (.long x1) :: own_zl 30) (.long (0 : Int64))) (Vh : Arv Z h0 bh kh .int (16 : Int32) ((.int hs) :: own_zi 15) (.int (0 : Int32))) (Vs : Arv Z h0 bs ks .int (32 : Int32) (own_sl sl) (.int (0 : Int32))) (V2 : Arv Z h0 a2 k2 .long (2 : Int32) [(.long y0), (.long y1)] (.long (0 : Int64))) (g1 : n0 ≤ a1) (gw : n0 ≤ bw) (gh : n0 ≤ bh) (gs : n0 ≤ bs) (naw : a1 ≠ bw) (nah : a1 ≠ bh) (nas : a1 ≠ bs) (n2w : a2 ≠ bw) (n2h : a2 ≠ bh) (n2s : a2 ≠ bs) (n12 : a1 ≠ a2) (nwh : bw ≠ bh) (nws : bw ≠ bs) (nhs : bh ≠ bs) (hhs : hs = (((31 : Int32) * ((31 : Int32) + (f5 x0))) + (f5 x1))) (hsl : sl = (f6 hs (31 : Int32))) :
    MetFree l y_3 (head1 (Jvm.Cond.code y_3 prog_63_method_6_code 7 (some .int) :: ws) ({ frames := 1, cells := 0, slots := 0, locals := 18 } : Room)) (fun a U => a = #[(.ref a1), (.ref a2), (.int (0 : Int32))] ∧ Z.Warmed39 U.vm ∧ U.heap = h0) (fun _ _ _ _ _ => True) (fun _ U o U' => ∃ v L, o = .returned v ∧ Q4_b2 Z a1 a2 bw bh bs kw kh ks k2 hs sl x0 x1 y0 y1 h0 n0 v U'.heap L ∧ FrameEnd U o U' L ({ frames := 1, cells := 0, slots := 0, locals := 18 } : Room).cells ({ frames := 1, cells := 0, slots := 0, locals := 18 } : Room).slots) := by
  refine MetFree.of_bodySF (plainFor_of_name pn_4_b2) hisR ?_
  intro p e s m args below meth c s₁ Bd hml0 hP hK
  obtain ⟨rfl, hZ, hh⟩ := hP
  have hx := Bd.exec
  have hby := Bd.bytes
  have hml : c.maxLocals = 7 := hml0
  have hown : s.vm.findClass "com/example/grammar_game_solver/grammargamesolver/summary/NumberedSets" = some m.cls := findClass_of_methodNamed Bd.named
  have hnm := (name_of_methodNamed Bd.named Bd.method).1
  have X0 : Stand p l e ({ frames := 1, cells := 0, slots := 0, locals := 18 } : Room) s m #[(.ref a1), (.ref a2), (.int (0 : Int32))] below meth c s₁ [] 0 0 := Stand.of_body Bd
  have e0 : s₁.heap = h0 := by rw [← hh, Bd.state]; rfl
  have N0 := Fr.nil n0
  have K0 : Keep h0 h0 [a1, bw, bh, bs] := Keep.refl h0 [a1, bw, bh, bs]
  obtain ⟨F0, hF0⟩ : ∃ F : JFrame, F = entryFrame m #[(.ref a1), (.ref a2), (.int (0 : Int32))] 7 := ⟨_, rfl⟩
  have pre0 : ∀ t, Steps p.tables e below (s₁.setTop F0) t → Steps p.tables e below (s₁.setTop (entryFrame m #[(.ref a1), (.ref a2), (.int (0 : Int32))] 7)) t := fun t k => hF0 ▸ k
  have go0 : Go p e below s₁ F0 s₁ (mkF m 0 #[vr a1, vr a2, vi (0 : Int32), .unset, .unset, .unset, .unset] []) := fun t k => castTop (hF0.trans (ef_4_b2 m a1 a2)) k
  have go1 : Go p e below s₁ F0 s₁ (mkF m 8 #[vr a1, vr a2, vi (0 : Int32), vi (1 : Int32), vi (0 : Int32), .unset, .unset] [(.ref a1), (.int (0 : Int32))]) := by
    intro t_ k_
    refine go0 t_ ?_
    refine o_iconst X0 hx (hb hby d4_0) (v := 1) rfl ?_
    refine o_istoreN X0 hx (hb hby d4_1) (L' := #[vr a1, vr a2, vi (0 : Int32), vi (1 : Int32), .unset, .unset, .unset]) rfl ?_
    refine o_iconst X0 hx (hb hby d4_2) (v := 0) rfl ?_
    refine o_istore X0 hx (hb hby d4_3) (L' := #[vr a1, vr a2, vi (0 : Int32), vi (1 : Int32), vi (0 : Int32), .unset, .unset]) rfl ?_
    refine o_iload X0 hx (hb hby d4_5) rfl ?_
    refine o_aloadN X0 hx (hb hby d4_7) rfl rfl ?_
    exact k_
  obtain ⟨T2, X2, e2, st2⟩ := getF X0 hx hZ hown (host := "") (Or.inl (own_w hw 9 rfl)) Via.refl e0 Fwi (g := (mkF m 8 #[vr a1, vr a2, vi (0 : Int32), vi (1 : Int32), vi (0 : Int32), .unset, .unset] [(.ref a1), (.int (0 : Int32))])) rfl rfl (hb hby d4_8)
  have go3 : Go p e below s₁ F0 T2 (mkF m 11 #[vr a1, vr a2, vi (0 : Int32), vi (1 : Int32), vi (0 : Int32), .unset, .unset] [(.int (2 : Int32)), (.int (0 : Int32))]) := fun t_ k_ => go1 t_ (st2 t_ k_)
  have go4 : Go p e below s₁ F0 T2 (mkF m 23 #[vr a1, vr a2, vi (0 : Int32), vi (1 : Int32), vi (0 : Int32), .unset, .unset] [(.int (0 : Int32)), (.ref a2), (.int (31 : Int32))]) := by
    intro t_ k_
    refine go3 t_ ?_
    refine o_icmpNo X2 hx (hb hby d4_11) (tlt (by decide : (0 : Int32) < (2 : Int32))).2.1 ?_
    refine o_bipush X2 hx (hb hby d4_14) (v := 31) rfl ?_
    refine o_iloadN X2 hx (hb hby d4_16) rfl ?_
    refine o_imulE X2 hx (hb hby d4_17) (v := 31) rfl ?_
    refine o_aloadN X2 hx (hb hby d4_18) rfl rfl ?_
    refine o_iloadN X2 hx (hb hby d4_19) rfl ?_
    refine o_iload X2 hx (hb hby d4_20) rfl ?_
    refine o_iaddE X2 hx (hb hby d4_22) (v := 0) rfl ?_
    exact k_
  obtain ⟨cl5, Ar5, -, Sz5, Nn5, Hs5, -⟩ := id V2
  have hin5 : ¬ ((0 : Int32) < 0 ∨ cl5.slots.size ≤ ((0 : Int32)).toNatClampNeg) := inb_of Sz5 ⟨by decide, by decide⟩
  have hat5 : cl5.slots[((0 : Int32)).toNatClampNeg]? = some (.long y0) := Hs5.at hin5 rfl
  have go6 : Go p e below s₁ F0 T2 (mkF m 24 #[vr a1, vr a2, vi (0 : Int32), vi (1 : Int32), vi (0 : Int32), .unset, .unset] [(.long y0), (.int (31 : Int32))]) := by
    intro t_ k_
    refine go4 t_ ?_
    refine o_laload X2 hx hZ e2 Ar5 hin5 hat5 (hb hby d4_23) ?_
    exact k_
  obtain ⟨_, _, ⟨T7, L7, k7, n7⟩, -, X7, ⟨Lc7, hQ7, l7, y7, z7⟩, st7⟩ := Jvm.LawKit.callS X2 hx (y := y_0) hown (mvT hZ (own_w hw 28 rfl)) (mvT hZ (own_w hw 29 rfl)) (mvT hZ (own_w hw 30 rfl)) (mvT hZ (own_w hw 31 rfl)) (by decide) (backOf (W := 1) (rm5 l Z a0 hw [] y0 h0 n0 Z0 ) hZ (own_w hw 31 rfl) (own_w hw 30 rfl) (by decide) (by decide)) (g := (mkF m 24 #[vr a1, vr a2, vi (0 : Int32), vi (1 : Int32), vi (0 : Int32), .unset, .unset] [(.long y0), (.int (31 : Int32))])) rfl (by rw [hml]; rfl) (argsL := [(.long y0)]) (rest := [(.int (31 : Int32))]) (lenOf pd4_b2_0 rfl) rfl (by show 2 * 0 + _ ≤ _; exact Nat.le_of_eq rfl) (hb hby d4_24) (fun _ _ => ⟨rfl, e2, (by decide : 0 + 0 ≤ _), (by decide : 0 + 0 ≤ _)⟩)
  dsimp only [Pt.U, Pt.locs, Pt.cells, Pt.slots] at X7 l7 y7 z7 st7 hQ7
  subst l7 y7 z7
  obtain ⟨rfl, Nq7, eh7⟩ := hQ7
  have N7 := Fr.app N0 Nq7
  have go8 : Go p e below s₁ F0 T7 (mkF m 27 #[vr a1, vr a2, vi (0 : Int32), vi (1 : Int32), vi (0 : Int32), .unset, .unset] [(.int (f5 y0)), (.int (31 : Int32))]) := fun t_ k_ => go6 t_ (st7 t_ k_)
  have go9 : Go p e below s₁ F0 T7 (mkF m 8 #[vr a1, vr a2, vi (0 : Int32), vi ((31 : Int32) + (f5 y0)), vi (1 : Int32), .unset, .unset] [(.ref a1), (.int (1 : Int32))]) := by
    intro t_ k_
    refine go8 t_ ?_
    refine o_iadd X7 hx (hb hby d4_27) ?_
    refine o_istoreN X7 hx (hb hby d4_28) (L' := #[vr a1, vr a2, vi (0 : Int32), vi ((31 : Int32) + (f5 y0)), vi (0 : Int32), .unset, .unset]) rfl ?_
    refine o_iinc X7 hx (hb hby d4_29) rfl (L' := #[vr a1, vr a2, vi (0 : Int32), vi ((31 : Int32) + (f5 y0)), vi (1 : Int32), .unset, .unset]) rfl ?_
    refine o_goto X7 hx (hb hby d4_32) (pc' := 5) rfl (by decide) ?_
    refine o_iload X7 hx (hb hby d4_5) rfl ?_
    refine o_aloadN X7 hx (hb hby d4_7) rfl rfl ?_
    exact k_
  obtain ⟨T10, X10, e10, st10⟩ := getF X7 hx hZ hown (host := "") (Or.inl (own_w hw 9 rfl)) Via.refl eh7 Fwi (g := (mkF m 8 #[vr a1, vr a2, vi (0 : Int32), vi ((31 : Int32) + (f5 y0)), vi (1 : Int32), .unset, .unset] [(.ref a1), (.int (1 : Int32))])) rfl rfl (hb hby d4_8)
  have go11 : Go p e below s₁ F0 T10 (mkF m 11 #[vr a1, vr a2, vi (0 : Int32), vi ((31 : Int32) + (f5 y0)), vi (1 : Int32), .unset, .unset] [(.int (2 : Int32)), (.int (1 : Int32))]) := fun t_ k_ => go9 t_ (st10 t_ k_)
  have go12 : Go p e below s₁ F0 T10 (mkF m 23 #[vr a1, vr a2, vi (0 : Int32), vi ((31 : Int32) + (f5 y0)), vi (1 : Int32), .unset, .unset] [(.int (1 : Int32)), (.ref a2), (.int ((31 : Int32) * ((31 : Int32) + (f5 y0))))]) := by
    intro t_ k_
    refine go11 t_ ?_
    refine o_icmpNo X10 hx (hb hby d4_11) (tlt (by decide : (1 : Int32) < (2 : Int32))).2.1 ?_
    refine o_bipush X10 hx (hb hby d4_14) (v := 31) rfl ?_
    refine o_iloadN X10 hx (hb hby d4_16) rfl ?_
    refine o_imul X10 hx (hb hby d4_17) ?_
    refine o_aloadN X10 hx (hb hby d4_18) rfl rfl ?_
    refine o_iloadN X10 hx (hb hby d4_19) rfl ?_
    refine o_iload X10 hx (hb hby d4_20) rfl ?_
    refine o_iaddE X10 hx (hb hby d4_22) (v := 1) rfl ?_
    exact k_
  obtain ⟨cl13, Ar13, -, Sz13, Nn13, Hs13, -⟩ := id V2
  have hin13 : ¬ ((1 : Int32) < 0 ∨ cl13.slots.size ≤ ((1 : Int32)).toNatClampNeg) := inb_of Sz13 ⟨by decide, by decide⟩
  have hat13 : cl13.slots[((1 : Int32)).toNatClampNeg]? = some (.long y1) := Hs13.at hin13 rfl
  have go14 : Go p e below s₁ F0 T10 (mkF m 24 #[vr a1, vr a2, vi (0 : Int32), vi ((31 : Int32) + (f5 y0)), vi (1 : Int32), .unset, .unset] [(.long y1), (.int ((31 : Int32) * ((31 : Int32) + (f5 y0))))]) := by
    intro t_ k_
    refine go12 t_ ?_
    refine o_laload X10 hx hZ e10 Ar13 hin13 hat13 (hb hby d4_23) ?_
    exact k_
  obtain ⟨_, _, ⟨T15, L15, k15, n15⟩, -, X15, ⟨Lc15, hQ15, l15, y15, z15⟩, st15⟩ := Jvm.LawKit.callS X10 hx (y := y_0) hown (mvT hZ (own_w hw 28 rfl)) (mvT hZ (own_w hw 29 rfl)) (mvT hZ (own_w hw 30 rfl)) (mvT hZ (own_w hw 31 rfl)) (by decide) (backOf (W := 1) (rm5 l Z a0 hw [] y1 h0 n0 Z0 ) hZ (own_w hw 31 rfl) (own_w hw 30 rfl) (by decide) (by decide)) (g := (mkF m 24 #[vr a1, vr a2, vi (0 : Int32), vi ((31 : Int32) + (f5 y0)), vi (1 : Int32), .unset, .unset] [(.long y1), (.int ((31 : Int32) * ((31 : Int32) + (f5 y0))))])) rfl (by rw [hml]; rfl) (argsL := [(.long y1)]) (rest := [(.int ((31 : Int32) * ((31 : Int32) + (f5 y0))))]) (lenOf pd4_b2_0 rfl) rfl (by show 2 * 0 + _ ≤ _; exact Nat.le_of_eq rfl) (hb hby d4_24) (fun _ _ => ⟨rfl, e10, (by decide : 0 + 0 ≤ _), (by decide : 0 + 0 ≤ _)⟩)
  dsimp only [Pt.U, Pt.locs, Pt.cells, Pt.slots] at X15 l15 y15 z15 st15 hQ15
  subst l15 y15 z15
  obtain ⟨rfl, Nq15, eh15⟩ := hQ15
  have N15 := Fr.app N7 Nq15
  have go16 : Go p e below s₁ F0 T15 (mkF m 27 #[vr a1, vr a2, vi (0 : Int32), vi ((31 : Int32) + (f5 y0)), vi (1 : Int32), .unset, .unset] [(.int (f5 y1)), (.int ((31 : Int32) * ((31 : Int32) + (f5 y0))))]) := fun t_ k_ => go14 t_ (st15 t_ k_)
  have go17 : Go p e below s₁ F0 T15 (mkF m 8 #[vr a1, vr a2, vi (0 : Int32), vi (((31 : Int32) * ((31 : Int32) + (f5 y0))) + (f5 y1)), vi (2 : Int32), .unset, .unset] [(.ref a1), (.int (2 : Int32))]) := by
    intro t_ k_
    refine go16 t_ ?_
    refine o_iadd X15 hx (hb hby d4_27) ?_
    refine o_istoreN X15 hx (hb hby d4_28) (L' := #[vr a1, vr a2, vi (0 : Int32), vi (((31 : Int32) * ((31 : Int32) + (f5 y0))) + (f5 y1)), vi (1 : Int32), .unset, .unset]) rfl ?_
    refine o_iinc X15 hx (hb hby d4_29) rfl (L' := #[vr a1, vr a2, vi (0 : Int32), vi (((31 : Int32) * ((31 : Int32) + (f5 y0))) + (f5 y1)), vi (2 : Int32), .unset, .unset]) rfl ?_
    refine o_goto X15 hx (hb hby d4_32) (pc' := 5) rfl (by decide) ?_
    refine o_iload X15 hx (hb hby d4_5) rfl ?_
    refine o_aloadN X15 hx (hb hby d4_7) rfl rfl ?_
    exact k_
  obtain ⟨T18, X18, e18, st18⟩ := getF X15 hx hZ hown (host := "") (Or.inl (own_w hw 9 rfl)) Via.refl eh15 Fwi (g := (mkF m 8 #[vr a1, vr a2, vi (0 : Int32), vi (((31 : Int32) * ((31 : Int32) + (f5 y0))) + (f5 y1)), vi (2 : Int32), .unset, .unset] [(.ref a1), (.int (2 : Int32))])) rfl rfl (hb hby d4_8)
  have go19 : Go p e below s₁ F0 T18 (mkF m 11 #[vr a1, vr a2, vi (0 : Int32), vi (((31 : Int32) * ((31 : Int32) + (f5 y0))) + (f5 y1)), vi (2 : Int32), .unset, .unset] [(.int (2 : Int32)), (.int (2 : Int32))]) := fun t_ k_ => go17 t_ (st18 t_ k_)
  have go20 : Go p e below s₁ F0 T18 (mkF m 35 #[vr a1, vr a2, vi (0 : Int32), vi (((31 : Int32) * ((31 : Int32) + (f5 y0))) + (f5 y1)), vi (2 : Int32), .unset, .unset] []) := by
    intro t_ k_
    refine go19 t_ ?_
    refine o_icmpYes X18 hx (hb hby d4_11) (pc' := 35) rfl (by decide) (flt (by decide : ¬ ((2 : Int32) < (2 : Int32)))).2.1 ?_
    exact k_
  obtain ⟨hs2, h_hs2⟩ : ∃ z : Int32, z = (((31 : Int32) * ((31 : Int32) + (f5 y0))) + (f5 y1)) := ⟨_, rfl⟩
  have go21 : Go p e below s₁ F0 T18 (mkF m 35 #[vr a1, vr a2, vi (0 : Int32), vi hs2, vi (2 : Int32), .unset, .unset] []) := by rw [h_hs2]; exact go20
  have go22 : Go p e below s₁ F0 T18 (mkF m 36 #[vr a1, vr a2, vi (0 : Int32), vi hs2, vi (2 : Int32), .unset, .unset] [(.ref a1)]) := by
    intro t_ k_
    refine go21 t_ ?_
    refine o_aloadN X18 hx (hb hby d4_35) rfl rfl ?_
    exact k_
  obtain ⟨T23, X23, e23, st23⟩ := getF X18 hx hZ hown (host := "") (Or.inl (own_w hw 17 rfl)) Via.refl e18 Fsl (g := (mkF m 36 #[vr a1, vr a2, vi (0 : Int32), vi hs2, vi (2 : Int32), .unset, .unset] [(.ref a1)])) rfl rfl (hb hby d4_36)
  have go24 : Go p e below s₁ F0 T23 (mkF m 39 #[vr a1, vr a2, vi (0 : Int32), vi hs2, vi (2 : Int32), .unset, .unset] [(.ref bs)]) := fun t_ k_ => go22 t_ (st23 t_ k_)
  obtain ⟨cl25, Ar25, -, Sz25, Nn25, -, -⟩ := id Vs
  have go26 : Go p e below s₁ F0 T23 (mkF m 47 #[vr a1, vr a2, vi (0 : Int32), vi hs2, vi (31 : Int32), .unset, .unset] [(.int (31 : Int32)), (.int hs2)]) := by
    intro t_ k_
    refine go24 t_ ?_
    refine o_len X23 hx hZ e23 Ar25 Sz25 Nn25 (hb hby d4_39) ?_
    refine o_iconst X23 hx (hb hby d4_40) (v := 1) rfl ?_
    refine o_isubE X23 hx (hb hby d4_41) (v := 31) rfl ?_
    refine o_istore X23 hx (hb hby d4_42) (L' := #[vr a1, vr a2, vi (0 : Int32), vi hs2, vi (31 : Int32), .unset, .unset]) rfl ?_
    refine o_iloadN X23 hx (hb hby d4_44) rfl ?_
    refine o_iload X23 hx (hb hby d4_45) rfl ?_
    exact k_
  obtain ⟨_, _, ⟨T27, L27, k27, n27⟩, -, X27, ⟨Lc27, hQ27, l27, y27, z27⟩, st27⟩ := Jvm.LawKit.callS X23 hx (y := y_1) hown (mvT hZ (own_w hw 32 rfl)) (mvT hZ (own_w hw 33 rfl)) (mvT hZ (own_w hw 2 rfl)) (mvT hZ (own_w hw 34 rfl)) (by decide) (backOf (W := 0) (rm6 l Z a0 hw [] hs2 (31 : Int32) h0 n0 Z0 ) hZ (own_w hw 34 rfl) (own_w hw 2 rfl) (by decide) (by decide)) (g := (mkF m 47 #[vr a1, vr a2, vi (0 : Int32), vi hs2, vi (31 : Int32), .unset, .unset] [(.int (31 : Int32)), (.int hs2)])) rfl (by rw [hml]; rfl) (argsL := [(.int hs2), (.int (31 : Int32))]) (rest := []) (lenOf pd4_b2_1 rfl) rfl (by show 2 * 0 + _ ≤ _; exact Nat.le_of_eq rfl) (hb hby d4_47) (fun _ _ => ⟨rfl, e23, (by decide : 0 + 0 ≤ _), (by decide : 0 + 0 ≤ _)⟩)
  dsimp only [Pt.U, Pt.locs, Pt.cells, Pt.slots] at X27 l27 y27 z27 st27 hQ27
  subst l27 y27 z27
  obtain ⟨rfl, Nq27, eh27⟩ := hQ27
  have N27 := Fr.app N15 Nq27
  have go28 : Go p e below s₁ F0 T27 (mkF m 50 #[vr a1, vr a2, vi (0 : Int32), vi hs2, vi (31 : Int32), .unset, .unset] [(.int (f6 hs2 (31 : Int32)))]) := fun t_ k_ => go26 t_ (st27 t_ k_)
  have go29 : Go p e below s₁ F0 T27 (mkF m 52 #[vr a1, vr a2, vi (0 : Int32), vi hs2, vi (31 : Int32), vi (f6 hs2 (31 : Int32)), .unset] []) := by
    intro t_ k_
    refine go28 t_ ?_
    refine o_istore X27 hx (hb hby d4_50) (L' := #[vr a1, vr a2, vi (0 : Int32), vi hs2, vi (31 : Int32), vi (f6 hs2 (31 : Int32)), .unset]) rfl ?_
    exact k_
  obtain ⟨t, h_t⟩ : ∃ z : Int32, z = (f6 hs2 (31 : Int32)) := ⟨_, rfl⟩
  have go30 : Go p e below s₁ F0 T27 (mkF m 52 #[vr a1, vr a2, vi (0 : Int32), vi hs2, vi (31 : Int32), vi t, .unset] []) := by rw [h_t]; exact go29
  by_cases hb52_31 : t = sl
  · skip
    have go32 : Go p e below s₁ F0 T27 (mkF m 53 #[vr a1, vr a2, vi (0 : Int32), vi hs2, vi (31 : Int32), vi t, .unset] [(.ref a1)]) := by
      intro t_ k_
      refine go30 t_ ?_
      refine o_aloadN X27 hx (hb hby d4_52) rfl rfl ?_
      exact k_
    obtain ⟨T33, X33, e33, st33⟩ := getF X27 hx hZ hown (host := "") (Or.inl (own_w hw 17 rfl)) Via.refl eh27 Fsl (g := (mkF m 53 #[vr a1, vr a2, vi (0 : Int32), vi hs2, vi (31 : Int32), vi t, .unset] [(.ref a1)])) rfl rfl (hb hby d4_53)
    have go34 : Go p e below s₁ F0 T33 (mkF m 56 #[vr a1, vr a2, vi (0 : Int32), vi hs2, vi (31 : Int32), vi t, .unset] [(.ref bs)]) := fun t_ k_ => go32 t_ (st33 t_ k_)
    have go35 : Go p e below s₁ F0 T33 (mkF m 58 #[vr a1, vr a2, vi (0 : Int32), vi hs2, vi (31 : Int32), vi t, .unset] [(.int t), (.ref bs)]) := by
      intro t_ k_
      refine go34 t_ ?_
      refine o_iload X33 hx (hb hby d4_56) rfl ?_
      exact k_
    obtain ⟨cl36, Ar36, -, Sz36, Nn36, Hs36, -⟩ := id Vs
    have hin36 : ¬ (t < 0 ∨ cl36.slots.size ≤ (t).toNatClampNeg) := inb_of Sz36 (own_in h_t)
    have hat36 : cl36.slots[(t).toNatClampNeg]? = some (.int (1 : Int32)) := Hs36.at hin36 (own_hit (own_in hsl) hb52_31)
    have go37 : Go p e below s₁ F0 T33 (mkF m 63 #[vr a1, vr a2, vi (0 : Int32), vi hs2, vi (31 : Int32), vi t, .unset] [(.ref a1)]) := by
      intro t_ k_
      refine go35 t_ ?_
      refine o_iaload X33 hx hZ e33 Ar36 hin36 hat36 (hb hby d4_58) ?_
      refine o_ifNo X33 hx (hb hby d4_59) ((if0 _ _).trans (feq (by decide : ¬ ((1 : Int32) = (0 : Int32)))).1) ?_
      refine o_aloadN X33 hx (hb hby d4_62) rfl rfl ?_
      exact k_
    obtain ⟨T38, X38, e38, st38⟩ := getF X33 hx hZ hown (host := "") (Or.inl (own_w hw 17 rfl)) Via.refl e33 Fsl (g := (mkF m 63 #[vr a1, vr a2, vi (0 : Int32), vi hs2, vi (31 : Int32), vi t, .unset] [(.ref a1)])) rfl rfl (hb hby d4_63)
    have go39 : Go p e below s₁ F0 T38 (mkF m 66 #[vr a1, vr a2, vi (0 : Int32), vi hs2, vi (31 : Int32), vi t, .unset] [(.ref bs)]) := fun t_ k_ => go37 t_ (st38 t_ k_)
    have go40 : Go p e below s₁ F0 T38 (mkF m 68 #[vr a1, vr a2, vi (0 : Int32), vi hs2, vi (31 : Int32), vi t, .unset] [(.int t), (.ref bs)]) := by
      intro t_ k_
      refine go39 t_ ?_
      refine o_iload X38 hx (hb hby d4_66) rfl ?_
      exact k_
    obtain ⟨cl41, Ar41, -, Sz41, Nn41, Hs41, -⟩ := id Vs
    have hin41 : ¬ (t < 0 ∨ cl41.slots.size ≤ (t).toNatClampNeg) := inb_of Sz41 (own_in h_t)
    have hat41 : cl41.slots[(t).toNatClampNeg]? = some (.int (1 : Int32)) := Hs41.at hin41 (own_hit (own_in hsl) hb52_31)
    have go42 : Go p e below s₁ F0 T38 (mkF m 74 #[vr a1, vr a2, vi (0 : Int32), vi hs2, vi (31 : Int32), vi t, vi (0 : Int32)] [(.ref a1)]) := by
      intro t_ k_
      refine go40 t_ ?_
      refine o_iaload X38 hx hZ e38 Ar41 hin41 hat41 (hb hby d4_68) ?_
      refine o_iconst X38 hx (hb hby d4_69) (v := 1) rfl ?_
      refine o_isubE X38 hx (hb hby d4_70) (v := 0) rfl ?_
      refine o_istore X38 hx (hb hby d4_71) (L' := #[vr a1, vr a2, vi (0 : Int32), vi hs2, vi (31 : Int32), vi t, vi (0 : Int32)]) rfl ?_
      refine o_aloadN X38 hx (hb hby d4_73) rfl rfl ?_
      exact k_
    obtain ⟨T43, X43, e43, st43⟩ := getF X38 hx hZ hown (host := "") (Or.inl (own_w hw 15 rfl)) Via.refl e38 Fha (g := (mkF m 74 #[vr a1, vr a2, vi (0 : Int32), vi hs2, vi (31 : Int32), vi t, vi (0 : Int32)] [(.ref a1)])) rfl rfl (hb hby d4_74)
    have go44 : Go p e below s₁ F0 T43 (mkF m 77 #[vr a1, vr a2, vi (0 : Int32), vi hs2, vi (31 : Int32), vi t, vi (0 : Int32)] [(.ref bh)]) := fun t_ k_ => go42 t_ (st43 t_ k_)
    have go45 : Go p e below s₁ F0 T43 (mkF m 79 #[vr a1, vr a2, vi (0 : Int32), vi hs2, vi (31 : Int32), vi t, vi (0 : Int32)] [(.int (0 : Int32)), (.ref bh)]) := by
      intro t_ k_
      refine go44 t_ ?_
      refine o_iload X43 hx (hb hby d4_77) rfl ?_
      exact k_
    obtain ⟨cl46, Ar46, -, Sz46, Nn46, Hs46, -⟩ := id Vh
    have hin46 : ¬ ((0 : Int32) < 0 ∨ cl46.slots.size ≤ ((0 : Int32)).toNatClampNeg) := inb_of Sz46 ⟨by decide, by decide⟩
    have hat46 : cl46.slots[((0 : Int32)).toNatClampNeg]? = some (.int hs) := Hs46.at hin46 rfl
    have go47 : Go p e below s₁ F0 T43 (mkF m 81 #[vr a1, vr a2, vi (0 : Int32), vi hs2, vi (31 : Int32), vi t, vi (0 : Int32)] [(.int hs2), (.int hs)]) := by
      intro t_ k_
      refine go45 t_ ?_
      refine o_iaload X43 hx hZ e43 Ar46 hin46 hat46 (hb hby d4_79) ?_
      refine o_iloadN X43 hx (hb hby d4_80) rfl ?_
      exact k_
    by_cases hc81_48 : hs = hs2
    · skip
      have go49 : Go p e below s₁ F0 T43 (mkF m 89 #[vr a1, vr a2, vi (0 : Int32), vi hs2, vi (31 : Int32), vi t, vi (0 : Int32)] [(.int (0 : Int32)), (.ref a2), (.int (0 : Int32)), (.ref a1)]) := by
        intro t_ k_
        refine go47 t_ ?_
        refine o_icmpNo X43 hx (hb hby d4_81) (teq hc81_48).2 ?_
        refine o_aloadN X43 hx (hb hby d4_84) rfl rfl ?_
        refine o_iload X43 hx (hb hby d4_85) rfl ?_
        refine o_aloadN X43 hx (hb hby d4_87) rfl rfl ?_
        refine o_iloadN X43 hx (hb hby d4_88) rfl ?_
        exact k_
      obtain ⟨cq50, q50, q50'⟩ := E0.cell
      obtain ⟨_, _, ⟨T50, L50, k50, n50⟩, -, X50, ⟨Lc50, hQ50, l50, y50, z50⟩, st50⟩ := X43.privateBack hx (y := y_5) hown (mvT hZ (own_w hw 47 rfl)) (mvT hZ (own_w hw 48 rfl)) (own_selp (mvT hZ (own_w hw 1 rfl)) (mvP hZ (own_w hw 49 rfl)) (mvT hZ (own_w hw 48 rfl)) (by decide)) (Cond.privateMethod_at (mvP hZ (own_w hw 49 rfl) (args := #[]))) (mvT hZ (own_w hw 50 rfl)) (by decide) (backOf (W := 0) (rm8_2 l Z a0 hw [] a1 a2 bw kw k2 x0 x1 y0 y1 h0 n0 Z0 Fwi Fwo Vw V2) hZ (own_w hw 50 rfl) (own_w hw 2 rfl) (by decide) (by decide)) (g := (mkF m 89 #[vr a1, vr a2, vi (0 : Int32), vi hs2, vi (31 : Int32), vi t, vi (0 : Int32)] [(.int (0 : Int32)), (.ref a2), (.int (0 : Int32)), (.ref a1)])) rfl (by rw [hml]; rfl) (Steps.refl _) (a := a1) (by rw [e43]; exact q50) q50' (argsL := [(.int (0 : Int32)), (.ref a2), (.int (0 : Int32))]) (rest := []) (lenOf pd4_b2_2 rfl) rfl (by show 2 * 0 + _ ≤ _; exact Nat.le_of_eq rfl) (hb hby d4_89) (fun _ _ => ⟨rfl, e43, (by decide : 0 + 0 ≤ _), (by decide : 0 + 0 ≤ _)⟩)
      dsimp only [Pt.U, Pt.locs, Pt.cells, Pt.slots] at X50 l50 y50 z50 st50 hQ50
      subst l50 y50 z50
      obtain ⟨rfl, Nq50, eh50⟩ := hQ50
      have N50 := Fr.app N27 Nq50
      have go51 : Go p e below s₁ F0 T50 (mkF m 92 #[vr a1, vr a2, vi (0 : Int32), vi hs2, vi (31 : Int32), vi t, vi (0 : Int32)] [(.int (f8_2 x0 x1 y0 y1))]) := fun t_ k_ => go49 t_ (st50.trans k_)
      by_cases hc92_52 : (f8_2 x0 x1 y0 y1) = (0 : Int32)
      · skip
        have go54 : Go p e below s₁ F0 T50 (mkF m 52 #[vr a1, vr a2, vi (0 : Int32), vi hs2, vi (31 : Int32), vi ((t + (1 : Int32)) &&& (31 : Int32)), vi (0 : Int32)] []) := by
          intro t_ k_
          refine go51 t_ ?_
          refine o_ifYes X50 hx (hb hby d4_92) (pc' := 98) rfl (by decide) ((if0 _ _).trans (teq hc92_52).1) ?_
          refine o_iload X50 hx (hb hby d4_98) rfl ?_
          refine o_iconst X50 hx (hb hby d4_100) (v := 1) rfl ?_
          refine o_iadd X50 hx (hb hby d4_101) ?_
          refine o_iload X50 hx (hb hby d4_102) rfl ?_
          refine o_iand X50 hx (hb hby d4_104) ?_
          refine o_istore X50 hx (hb hby d4_105) (L' := #[vr a1, vr a2, vi (0 : Int32), vi hs2, vi (31 : Int32), vi ((t + (1 : Int32)) &&& (31 : Int32)), vi (0 : Int32)]) rfl ?_
          refine o_goto X50 hx (hb hby d4_107) (pc' := 52) rfl (by decide) ?_
          exact k_
        obtain ⟨t53, h_t53⟩ : ∃ z : Int32, z = ((t + (1 : Int32)) &&& (31 : Int32)) := ⟨_, rfl⟩
        have go55 : Go p e below s₁ F0 T50 (mkF m 52 #[vr a1, vr a2, vi (0 : Int32), vi hs2, vi (31 : Int32), vi t53, vi (0 : Int32)] []) := by rw [h_t53]; exact go54
        have go56 : Go p e below s₁ F0 T50 (mkF m 53 #[vr a1, vr a2, vi (0 : Int32), vi hs2, vi (31 : Int32), vi t53, vi (0 : Int32)] [(.ref a1)]) := by
          intro t_ k_
          refine go55 t_ ?_
          refine o_aloadN X50 hx (hb hby d4_52) rfl rfl ?_
          exact k_
        obtain ⟨T57, X57, e57, st57⟩ := getF X50 hx hZ hown (host := "") (Or.inl (own_w hw 17 rfl)) Via.refl eh50 Fsl (g := (mkF m 53 #[vr a1, vr a2, vi (0 : Int32), vi hs2, vi (31 : Int32), vi t53, vi (0 : Int32)] [(.ref a1)])) rfl rfl (hb hby d4_53)
        have go58 : Go p e below s₁ F0 T57 (mkF m 56 #[vr a1, vr a2, vi (0 : Int32), vi hs2, vi (31 : Int32), vi t53, vi (0 : Int32)] [(.ref bs)]) := fun t_ k_ => go56 t_ (st57 t_ k_)
        have go59 : Go p e below s₁ F0 T57 (mkF m 58 #[vr a1, vr a2, vi (0 : Int32), vi hs2, vi (31 : Int32), vi t53, vi (0 : Int32)] [(.int t53), (.ref bs)]) := by
          intro t_ k_
          refine go58 t_ ?_
          refine o_iload X57 hx (hb hby d4_56) rfl ?_
          exact k_
        obtain ⟨cl60, Ar60, -, Sz60, Nn60, Hs60, -⟩ := id Vs
        have hin60 : ¬ (t53 < 0 ∨ cl60.slots.size ≤ (t53).toNatClampNeg) := inb_of Sz60 (own_in2 h_t53)
        have hat60 : cl60.slots[(t53).toNatClampNeg]? = some (.int (0 : Int32)) := Hs60.at hin60 (own_miss (own_in2 h_t53) (own_in hsl) (own_next (own_in hsl) hb52_31 h_t53))
        have go61 : Go p e below s₁ F0 T57 (mkF m 112 #[vr a1, vr a2, vi (0 : Int32), vi hs2, vi (31 : Int32), vi t53, vi (0 : Int32)] [(.ref a1), (.ref a1)]) := by
          intro t_ k_
          refine go59 t_ ?_
          refine o_iaload X57 hx hZ e57 Ar60 hin60 hat60 (hb hby d4_58) ?_
          refine o_ifYes X57 hx (hb hby d4_59) (pc' := 110) rfl (by decide) ((if0 _ _).trans (teq (by decide : (0 : Int32) = (0 : Int32))).1) ?_
          refine o_aloadN X57 hx (hb hby d4_110) rfl rfl ?_
          refine o_dup X57 hx (hb hby d4_111) rfl ?_
          exact k_
        obtain ⟨T62, X62, e62, st62⟩ := getF X57 hx hZ hown (host := "") (Or.inl (own_w hw 36 rfl)) Via.refl e57 Fco (g := (mkF m 112 #[vr a1, vr a2, vi (0 : Int32), vi hs2, vi (31 : Int32), vi t53, vi (0 : Int32)] [(.ref a1), (.ref a1)])) rfl rfl (hb hby d4_112)
        have go63 : Go p e below s₁ F0 T62 (mkF m 115 #[vr a1, vr a2, vi (0 : Int32), vi hs2, vi (31 : Int32), vi t53, vi (0 : Int32)] [(.int (1 : Int32)), (.ref a1)]) := fun t_ k_ => go61 t_ (st62 t_ k_)
        have go64 : Go p e below s₁ F0 T62 (mkF m 118 #[vr a1, vr a2, vi (0 : Int32), vi hs2, vi (31 : Int32), vi t53, vi (0 : Int32)] [(.int (2 : Int32)), (.ref a1), (.int (1 : Int32))]) := by
          intro t_ k_
          refine go63 t_ ?_
          refine o_dupX1 X62 hx (hb hby d4_115) rfl rfl ?_
          refine o_iconst X62 hx (hb hby d4_116) (v := 1) rfl ?_
          refine o_iaddE X62 hx (hb hby d4_117) (v := 2) rfl ?_
          exact k_
        obtain ⟨T65, h65, X65, e65, W65, st65⟩ := putF X62 hx hZ hown (host := "") (Or.inl (own_w hw 36 rfl)) Via.refl e62 Fco E0 (Or.inl (own_w hw 37 rfl)) (own_w hw 1 rfl) (ty := .int) (by decide) rfl rfl (g := (mkF m 118 #[vr a1, vr a2, vi (0 : Int32), vi hs2, vi (31 : Int32), vi t53, vi (0 : Int32)] [(.int (2 : Int32)), (.ref a1), (.int (1 : Int32))])) rfl rfl (hb hby d4_118)
        have Fw65 : Fld Z h65 a1 c_0 "count" "I" (.int (2 : Int32)) := Fld.same W65 Fco
        have K66 : Keep h0 h65 [a1, bw, bh, bs] := K0.wr W65 (Or.inl (List.mem_of_getElem? (i := 0) rfl))
        have Z66 : n0 ≤ h65.size := Nat.le_trans Z0 (Keep.of_wr W65).1
        have N65 := Fr.snoc X65 N50 g1
        have go67 : Go p e below s₁ F0 T65 (mkF m 121 #[vr a1, vr a2, vi (0 : Int32), vi hs2, vi (31 : Int32), vi t53, vi (0 : Int32)] [(.int (1 : Int32))]) := fun t_ k_ => go64 t_ (st65 t_ k_)
        have F68 : Fld Z h65 a1 c_0 "hashes" "[I" (.ref bh) := (Fha.other W65 (Or.inr (slot_ne (Or.inl (own_w hw 16 rfl)) (Or.inl (own_w hw 37 rfl)) (by decide) (t := (.array .int)) (t' := .int) (by decide) (by decide))))
        have go69 : Go p e below s₁ F0 T65 (mkF m 126 #[vr a1, vr a2, vi (0 : Int32), vi hs2, vi (31 : Int32), vi t53, vi (1 : Int32)] [(.ref a1), (.int (1 : Int32))]) := by
          intro t_ k_
          refine go67 t_ ?_
          refine o_istore X65 hx (hb hby d4_121) (L' := #[vr a1, vr a2, vi (0 : Int32), vi hs2, vi (31 : Int32), vi t53, vi (1 : Int32)]) rfl ?_
          refine o_iload X65 hx (hb hby d4_123) rfl ?_
          refine o_aloadN X65 hx (hb hby d4_125) rfl rfl ?_
          exact k_
        obtain ⟨T70, X70, e70, st70⟩ := getF X65 hx hZ hown (host := "") (Or.inl (own_w hw 15 rfl)) Via.refl e65 F68 (g := (mkF m 126 #[vr a1, vr a2, vi (0 : Int32), vi hs2, vi (31 : Int32), vi t53, vi (1 : Int32)] [(.ref a1), (.int (1 : Int32))])) rfl rfl (hb hby d4_126)
        have go71 : Go p e below s₁ F0 T70 (mkF m 129 #[vr a1, vr a2, vi (0 : Int32), vi hs2, vi (31 : Int32), vi t53, vi (1 : Int32)] [(.ref bh), (.int (1 : Int32))]) := fun t_ k_ => go69 t_ (st70 t_ k_)
        have F72 : Arv Z h65 bh kh .int (16 : Int32) ((.int hs) :: own_zi 15) (.int (0 : Int32)) := (Vh.other W65 (Ne.symm nah))
        obtain ⟨cl73, Ar73, -, Sz73, Nn73, -, -⟩ := id F72
        have F74 : Fld Z h65 a1 c_0 "words" "[J" (.ref bw) := (Fwo.other W65 (Or.inr (slot_ne (Or.inl (own_w hw 13 rfl)) (Or.inl (own_w hw 37 rfl)) (by decide) (t := (.array .long)) (t' := .int) (by decide) (by decide))))
        have go75 : Go p e below s₁ F0 T70 (mkF m 171 #[vr a1, vr a2, vi (0 : Int32), vi hs2, vi (31 : Int32), vi t53, vi (1 : Int32)] [(.ref a1), (.int (0 : Int32)), (.ref a2)]) := by
          intro t_ k_
          refine go71 t_ ?_
          refine o_len X70 hx hZ e70 Ar73 Sz73 Nn73 (hb hby d4_129) ?_
          refine o_icmpYes X70 hx (hb hby d4_130) (pc' := 168) rfl (by decide) (feq (by decide : ¬ ((1 : Int32) = (16 : Int32)))).2 ?_
          refine o_aloadN X70 hx (hb hby d4_168) rfl rfl ?_
          refine o_iloadN X70 hx (hb hby d4_169) rfl ?_
          refine o_aloadN X70 hx (hb hby d4_170) rfl rfl ?_
          exact k_
        obtain ⟨T76, X76, e76, st76⟩ := getF X70 hx hZ hown (host := "") (Or.inl (own_w hw 12 rfl)) Via.refl e70 F74 (g := (mkF m 171 #[vr a1, vr a2, vi (0 : Int32), vi hs2, vi (31 : Int32), vi t53, vi (1 : Int32)] [(.ref a1), (.int (0 : Int32)), (.ref a2)])) rfl rfl (hb hby d4_171)
        have go77 : Go p e below s₁ F0 T76 (mkF m 174 #[vr a1, vr a2, vi (0 : Int32), vi hs2, vi (31 : Int32), vi t53, vi (1 : Int32)] [(.ref bw), (.int (0 : Int32)), (.ref a2)]) := fun t_ k_ => go75 t_ (st76 t_ k_)
        have F78 : Fld Z h65 a1 c_0 "width" "I" (.int (2 : Int32)) := (Fwi.other W65 (Or.inr (slot_ne (Or.inr (own_w hw 10 rfl)) (Or.inl (own_w hw 37 rfl)) (by decide) (t := .int) (t' := .int) (by decide) (by decide))))
        have go79 : Go p e below s₁ F0 T76 (mkF m 177 #[vr a1, vr a2, vi (0 : Int32), vi hs2, vi (31 : Int32), vi t53, vi (1 : Int32)] [(.ref a1), (.int (1 : Int32)), (.ref bw), (.int (0 : Int32)), (.ref a2)]) := by
          intro t_ k_
          refine go77 t_ ?_
          refine o_iload X76 hx (hb hby d4_174) rfl ?_
          refine o_aloadN X76 hx (hb hby d4_176) rfl rfl ?_
          exact k_
        obtain ⟨T80, X80, e80, st80⟩ := getF X76 hx hZ hown (host := "") (Or.inl (own_w hw 9 rfl)) Via.refl e76 F78 (g := (mkF m 177 #[vr a1, vr a2, vi (0 : Int32), vi hs2, vi (31 : Int32), vi t53, vi (1 : Int32)] [(.ref a1), (.int (1 : Int32)), (.ref bw), (.int (0 : Int32)), (.ref a2)])) rfl rfl (hb hby d4_177)
        have go81 : Go p e below s₁ F0 T80 (mkF m 180 #[vr a1, vr a2, vi (0 : Int32), vi hs2, vi (31 : Int32), vi t53, vi (1 : Int32)] [(.int (2 : Int32)), (.int (1 : Int32)), (.ref bw), (.int (0 : Int32)), (.ref a2)]) := fun t_ k_ => go79 t_ (st80 t_ k_)
        have go82 : Go p e below s₁ F0 T80 (mkF m 182 #[vr a1, vr a2, vi (0 : Int32), vi hs2, vi (31 : Int32), vi t53, vi (1 : Int32)] [(.ref a1), (.int (2 : Int32)), (.ref bw), (.int (0 : Int32)), (.ref a2)]) := by
          intro t_ k_
          refine go81 t_ ?_
          refine o_imulE X80 hx (hb hby d4_180) (v := 2) rfl ?_
          refine o_aloadN X80 hx (hb hby d4_181) rfl rfl ?_
          exact k_
        obtain ⟨T83, X83, e83, st83⟩ := getF X80 hx hZ hown (host := "") (Or.inl (own_w hw 9 rfl)) Via.refl e80 F78 (g := (mkF m 182 #[vr a1, vr a2, vi (0 : Int32), vi hs2, vi (31 : Int32), vi t53, vi (1 : Int32)] [(.ref a1), (.int (2 : Int32)), (.ref bw), (.int (0 : Int32)), (.ref a2)])) rfl rfl (hb hby d4_182)
        have go84 : Go p e below s₁ F0 T83 (mkF m 185 #[vr a1, vr a2, vi (0 : Int32), vi hs2, vi (31 : Int32), vi t53, vi (1 : Int32)] [(.int (2 : Int32)), (.int (2 : Int32)), (.ref bw), (.int (0 : Int32)), (.ref a2)]) := fun t_ k_ => go82 t_ (st83 t_ k_)
        have F85 : Arv Z h65 a2 k2 .long (2 : Int32) [(.long y0), (.long y1)] (.long (0 : Int64)) := (V2.other W65 (Ne.symm n12))
        have F86 : Arv Z h65 bw kw .long (32 : Int32) ((.long x0) :: (.long x1) :: own_zl 30) (.long (0 : Int64)) := (Vw.other W65 (Ne.symm naw))
        obtain ⟨T87, h87, L87, X87, e87, N87, Kc87, Vc87, st87⟩ := cpA X83 hx hZ hown (own_w hw 38 rfl) (own_w hw 41 rfl) (own_w hw 39 rfl) (own_w hw 40 rfl) e83 F85 F86 (Or.inl ⟨rfl, rfl⟩) (by decide) (by decide) (by decide) (by decide) (by decide) (us := [(.long y0), (.long y1)]) rfl (Nat.le_of_ble_eq_true rfl) N65 gw (g := (mkF m 185 #[vr a1, vr a2, vi (0 : Int32), vi hs2, vi (31 : Int32), vi t53, vi (1 : Int32)] [(.int (2 : Int32)), (.int (2 : Int32)), (.ref bw), (.int (0 : Int32)), (.ref a2)])) rfl (by rw [hml]; rfl) rfl (hb hby d4_185) (by decide) (W := 0) (by show 2 * 0 + _ ≤ _; exact Nat.le_of_eq rfl) (by decide)
        have V87 : Arv Z h87 bw kw .long (32 : Int32) ((.long x0) :: (.long x1) :: (.long y0) :: (.long y1) :: own_zl 28) (.long (0 : Int64)) := Vc87
        have K88 : Keep h0 h87 [a1, bw, bh, bs] := K66.trans Kc87 (allS (Or.inl (List.mem_of_getElem? (i := 1) rfl)) all0)
        have Z88 : n0 ≤ h87.size := Nat.le_trans Z66 Kc87.1
        have go89 : Go p e below s₁ F0 T87 (mkF m 188 #[vr a1, vr a2, vi (0 : Int32), vi hs2, vi (31 : Int32), vi t53, vi (1 : Int32)] []) := fun t_ k_ => go84 t_ (st87 t_ k_)
        have F90 : Fld Z h87 a1 c_0 "hashes" "[I" (.ref bh) := (F68.keep Kc87 (ninS naw nin0))
        have go91 : Go p e below s₁ F0 T87 (mkF m 189 #[vr a1, vr a2, vi (0 : Int32), vi hs2, vi (31 : Int32), vi t53, vi (1 : Int32)] [(.ref a1)]) := by
          intro t_ k_
          refine go89 t_ ?_
          refine o_aloadN X87 hx (hb hby d4_188) rfl rfl ?_
          exact k_
        obtain ⟨T92, X92, e92, st92⟩ := getF X87 hx hZ hown (host := "") (Or.inl (own_w hw 15 rfl)) Via.refl e87 F90 (g := (mkF m 189 #[vr a1, vr a2, vi (0 : Int32), vi hs2, vi (31 : Int32), vi t53, vi (1 : Int32)] [(.ref a1)])) rfl rfl (hb hby d4_189)
        have go93 : Go p e below s₁ F0 T92 (mkF m 192 #[vr a1, vr a2, vi (0 : Int32), vi hs2, vi (31 : Int32), vi t53, vi (1 : Int32)] [(.ref bh)]) := fun t_ k_ => go91 t_ (st92 t_ k_)
        have F94 : Arv Z h87 bh kh .int (16 : Int32) ((.int hs) :: own_zi 15) (.int (0 : Int32)) := (F72.keep Kc87 (ninS (Ne.symm nwh) nin0))
        have go95 : Go p e below s₁ F0 T92 (mkF m 195 #[vr a1, vr a2, vi (0 : Int32), vi hs2, vi (31 : Int32), vi t53, vi (1 : Int32)] [(.int hs2), (.int (1 : Int32)), (.ref bh)]) := by
          intro t_ k_
          refine go93 t_ ?_
          refine o_iload X92 hx (hb hby d4_192) rfl ?_
          refine o_iloadN X92 hx (hb hby d4_194) rfl ?_
          exact k_
        obtain ⟨cl96, Ar96, q96, Sz96, Nn96, Hs96, G96⟩ := id F94
        have hin96 : ¬ ((1 : Int32) < 0 ∨ cl96.slots.size ≤ ((1 : Int32)).toNatClampNeg) := inb_of Sz96 ⟨by decide, by decide⟩
        obtain ⟨T96, h96, X96, e96, W96, st96⟩ := stI X92 hx hZ e92 Ar96 (j := (1 : Int32)) hin96 (g := (mkF m 195 #[vr a1, vr a2, vi (0 : Int32), vi hs2, vi (31 : Int32), vi t53, vi (1 : Int32)] [(.int hs2), (.int (1 : Int32)), (.ref bh)])) rfl rfl (hb hby d4_195)
        have V96 : Arv Z h96 bh kh .int (16 : Int32) ((.int hs) :: (.int hs2) :: own_zi 14) (.int (0 : Int32)) := Arv.set Ar96 q96 Sz96 Nn96 Hs96 G96 rfl W96 1 rfl (Nat.le_of_ble_eq_true rfl)
        have K97 : Keep h0 h96 [a1, bw, bh, bs] := K88.wr W96 (Or.inl (List.mem_of_getElem? (i := 2) rfl))
        have Z97 : n0 ≤ h96.size := Nat.le_trans Z88 (Keep.of_wr W96).1
        have N96 := Fr.snoc X96 N87 gh
        have go98 : Go p e below s₁ F0 T96 (mkF m 196 #[vr a1, vr a2, vi (0 : Int32), vi hs2, vi (31 : Int32), vi t53, vi (1 : Int32)] []) := fun t_ k_ => go95 t_ (st96 t_ k_)
        have F99 : Fld Z h96 a1 c_0 "slots" "[I" (.ref bs) := (((Fsl.other W65 (Or.inr (slot_ne (Or.inl (own_w hw 18 rfl)) (Or.inl (own_w hw 37 rfl)) (by decide) (t := (.array .int)) (t' := .int) (by decide) (by decide)))).keep Kc87 (ninS naw nin0)).other W96 (Or.inl nah))
        have go100 : Go p e below s₁ F0 T96 (mkF m 197 #[vr a1, vr a2, vi (0 : Int32), vi hs2, vi (31 : Int32), vi t53, vi (1 : Int32)] [(.ref a1)]) := by
          intro t_ k_
          refine go98 t_ ?_
          refine o_aloadN X96 hx (hb hby d4_196) rfl rfl ?_
          exact k_
        obtain ⟨T101, X101, e101, st101⟩ := getF X96 hx hZ hown (host := "") (Or.inl (own_w hw 17 rfl)) Via.refl e96 F99 (g := (mkF m 197 #[vr a1, vr a2, vi (0 : Int32), vi hs2, vi (31 : Int32), vi t53, vi (1 : Int32)] [(.ref a1)])) rfl rfl (hb hby d4_197)
        have go102 : Go p e below s₁ F0 T101 (mkF m 200 #[vr a1, vr a2, vi (0 : Int32), vi hs2, vi (31 : Int32), vi t53, vi (1 : Int32)] [(.ref bs)]) := fun t_ k_ => go100 t_ (st101 t_ k_)
        have F103 : Arv Z h96 bs ks .int (32 : Int32) (own_sl sl) (.int (0 : Int32)) := (((Vs.other W65 (Ne.symm nas)).keep Kc87 (ninS (Ne.symm nws) nin0)).other W96 (Ne.symm nhs))
        have go104 : Go p e below s₁ F0 T101 (mkF m 206 #[vr a1, vr a2, vi (0 : Int32), vi hs2, vi (31 : Int32), vi t53, vi (1 : Int32)] [(.int (2 : Int32)), (.int t53), (.ref bs)]) := by
          intro t_ k_
          refine go102 t_ ?_
          refine o_iload X101 hx (hb hby d4_200) rfl ?_
          refine o_iload X101 hx (hb hby d4_202) rfl ?_
          refine o_iconst X101 hx (hb hby d4_204) (v := 1) rfl ?_
          refine o_iaddE X101 hx (hb hby d4_205) (v := 2) rfl ?_
          exact k_
        obtain ⟨cl105, Ar105, q105, Sz105, Nn105, Hs105, G105⟩ := id F103
        have hin105 : ¬ (t53 < 0 ∨ cl105.slots.size ≤ (t53).toNatClampNeg) := inb_of Sz105 (own_in2 h_t53)
        obtain ⟨T105, h105, X105, e105, W105, st105⟩ := stI X101 hx hZ e101 Ar105 (j := t53) hin105 (g := (mkF m 206 #[vr a1, vr a2, vi (0 : Int32), vi hs2, vi (31 : Int32), vi t53, vi (1 : Int32)] [(.int (2 : Int32)), (.int t53), (.ref bs)])) rfl rfl (hb hby d4_206)
        have V105 : Arv Z h105 bs ks .int (32 : Int32) ((own_sl sl).set t53.toNatClampNeg (.int (2 : Int32))) (.int (0 : Int32)) := Arv.set Ar105 q105 Sz105 Nn105 Hs105 G105 rfl W105 t53.toNatClampNeg rfl (own_ls (own_in2 h_t53))
        have K106 : Keep h0 h105 [a1, bw, bh, bs] := K97.wr W105 (Or.inl (List.mem_of_getElem? (i := 3) rfl))
        have Z106 : n0 ≤ h105.size := Nat.le_trans Z97 (Keep.of_wr W105).1
        have N105 := Fr.snoc X105 N96 gs
        have go107 : Go p e below s₁ F0 T105 (mkF m 207 #[vr a1, vr a2, vi (0 : Int32), vi hs2, vi (31 : Int32), vi t53, vi (1 : Int32)] []) := fun t_ k_ => go104 t_ (st105 t_ k_)
        have F108 : Fld Z h105 a1 c_0 "count" "I" (.int (2 : Int32)) := (((Fw65.keep Kc87 (ninS naw nin0)).other W96 (Or.inl nah)).other W105 (Or.inl nas))
        have go109 : Go p e below s₁ F0 T105 (mkF m 209 #[vr a1, vr a2, vi (0 : Int32), vi hs2, vi (31 : Int32), vi t53, vi (1 : Int32)] [(.ref a1), (.int (2 : Int32))]) := by
          intro t_ k_
          refine go107 t_ ?_
          refine o_iconst X105 hx (hb hby d4_207) (v := 2) rfl ?_
          refine o_aloadN X105 hx (hb hby d4_208) rfl rfl ?_
          exact k_
        obtain ⟨T110, X110, e110, st110⟩ := getF X105 hx hZ hown (host := "") (Or.inl (own_w hw 36 rfl)) Via.refl e105 F108 (g := (mkF m 209 #[vr a1, vr a2, vi (0 : Int32), vi hs2, vi (31 : Int32), vi t53, vi (1 : Int32)] [(.ref a1), (.int (2 : Int32))])) rfl rfl (hb hby d4_209)
        have go111 : Go p e below s₁ F0 T110 (mkF m 212 #[vr a1, vr a2, vi (0 : Int32), vi hs2, vi (31 : Int32), vi t53, vi (1 : Int32)] [(.int (2 : Int32)), (.int (2 : Int32))]) := fun t_ k_ => go109 t_ (st110 t_ k_)
        have F112 : Fld Z h105 a1 c_0 "slots" "[I" (.ref bs) := (F99.other W105 (Or.inl nas))
        have go113 : Go p e below s₁ F0 T110 (mkF m 214 #[vr a1, vr a2, vi (0 : Int32), vi hs2, vi (31 : Int32), vi t53, vi (1 : Int32)] [(.ref a1), (.int (4 : Int32))]) := by
          intro t_ k_
          refine go111 t_ ?_
          refine o_imulE X110 hx (hb hby d4_212) (v := 4) rfl ?_
          refine o_aloadN X110 hx (hb hby d4_213) rfl rfl ?_
          exact k_
        obtain ⟨T114, X114, e114, st114⟩ := getF X110 hx hZ hown (host := "") (Or.inl (own_w hw 17 rfl)) Via.refl e110 F112 (g := (mkF m 214 #[vr a1, vr a2, vi (0 : Int32), vi hs2, vi (31 : Int32), vi t53, vi (1 : Int32)] [(.ref a1), (.int (4 : Int32))])) rfl rfl (hb hby d4_214)
        have go115 : Go p e below s₁ F0 T114 (mkF m 217 #[vr a1, vr a2, vi (0 : Int32), vi hs2, vi (31 : Int32), vi t53, vi (1 : Int32)] [(.ref bs), (.int (4 : Int32))]) := fun t_ k_ => go113 t_ (st114 t_ k_)
        obtain ⟨cl116, Ar116, -, Sz116, Nn116, -, -⟩ := id V105
        have go117 : Go p e below s₁ F0 T114 (mkF m 227 #[vr a1, vr a2, vi (0 : Int32), vi hs2, vi (31 : Int32), vi t53, vi (1 : Int32)] [(.int (1 : Int32))]) := by
          intro t_ k_
          refine go115 t_ ?_
          refine o_len X114 hx hZ e114 Ar116 Sz116 Nn116 (hb hby d4_217) ?_
          refine o_icmpYes X114 hx (hb hby d4_218) (pc' := 225) rfl (by decide) (flt (by decide : ¬ ((32 : Int32) < (4 : Int32)))).2.2.2 ?_
          refine o_iload X114 hx (hb hby d4_225) rfl ?_
          exact k_
        obtain ⟨fs, hr, hrun, hended, hW, hsame⟩ := X114.leave (v := some (.int (1 : Int32))) (fun h => by rw [Bd.returns] at h; cases h)
        refine ⟨_, _, pre0 _ (go117 _ ?_), hrun, hended, _, _, rfl, ?_, ⟨_, rfl⟩, hW, hsame.mono (by decide) (by decide)⟩
        · skip
          exact retI X114 hx Bd.returns (hb hby d4_227) hr
        · show Q4_b2 Z a1 a2 bw bh bs kw kh ks k2 hs sl x0 x1 y0 y1 h0 n0 _ T114.heap _
          rw [e114]
          have F118 : Fld Z h105 a1 c_0 "width" "I" (.int (2 : Int32)) := (((F78.keep Kc87 (ninS naw nin0)).other W96 (Or.inl nah)).other W105 (Or.inl nas))
          have F119 : Fld Z h105 a1 c_0 "words" "[J" (.ref bw) := (((F74.keep Kc87 (ninS naw nin0)).other W96 (Or.inl nah)).other W105 (Or.inl nas))
          have F120 : Arv Z h105 bw kw .long (32 : Int32) ((.long x0) :: (.long x1) :: (.long y0) :: (.long y1) :: own_zl 28) (.long (0 : Int64)) := ((V87.other W96 nwh).other W105 nws)
          exact ⟨(1 : Int32), y0, y1, rfl, N105, K106, F118, F119, F120, (Or.inr ⟨rfl, (own_neW_2 hc92_52), rfl, rfl⟩)⟩
      · skip
        have go121 : Go p e below s₁ F0 T50 (mkF m 97 #[vr a1, vr a2, vi (0 : Int32), vi hs2, vi (31 : Int32), vi t, vi (0 : Int32)] [(.int (0 : Int32))]) := by
          intro t_ k_
          refine go51 t_ ?_
          refine o_ifNo X50 hx (hb hby d4_92) ((if0 _ _).trans (feq hc92_52).1) ?_
          refine o_iload X50 hx (hb hby d4_95) rfl ?_
          exact k_
        obtain ⟨fs, hr, hrun, hended, hW, hsame⟩ := X50.leave (v := some (.int (0 : Int32))) (fun h => by rw [Bd.returns] at h; cases h)
        refine ⟨_, _, pre0 _ (go121 _ ?_), hrun, hended, _, _, rfl, ?_, ⟨_, rfl⟩, hW, hsame.mono (by decide) (by decide)⟩
        · skip
          exact retI X50 hx Bd.returns (hb hby d4_97) hr
        · show Q4_b2 Z a1 a2 bw bh bs kw kh ks k2 hs sl x0 x1 y0 y1 h0 n0 _ T50.heap _
          rw [eh50]
          exact ⟨(0 : Int32), (0 : Int64), (0 : Int64), rfl, N50, K0, Fwi, Fwo, Vw, (Or.inl ⟨rfl, own_eqT_2 hc92_52⟩)⟩
    · skip
      have go123 : Go p e below s₁ F0 T43 (mkF m 52 #[vr a1, vr a2, vi (0 : Int32), vi hs2, vi (31 : Int32), vi ((t + (1 : Int32)) &&& (31 : Int32)), vi (0 : Int32)] []) := by
        intro t_ k_
        refine go47 t_ ?_
        refine o_icmpYes X43 hx (hb hby d4_81) (pc' := 98) rfl (by decide) (feq hc81_48).2 ?_
        refine o_iload X43 hx (hb hby d4_98) rfl ?_
        refine o_iconst X43 hx (hb hby d4_100) (v := 1) rfl ?_
        refine o_iadd X43 hx (hb hby d4_101) ?_
        refine o_iload X43 hx (hb hby d4_102) rfl ?_
        refine o_iand X43 hx (hb hby d4_104) ?_
        refine o_istore X43 hx (hb hby d4_105) (L' := #[vr a1, vr a2, vi (0 : Int32), vi hs2, vi (31 : Int32), vi ((t + (1 : Int32)) &&& (31 : Int32)), vi (0 : Int32)]) rfl ?_
        refine o_goto X43 hx (hb hby d4_107) (pc' := 52) rfl (by decide) ?_
        exact k_
      obtain ⟨t122, h_t122⟩ : ∃ z : Int32, z = ((t + (1 : Int32)) &&& (31 : Int32)) := ⟨_, rfl⟩
      have go124 : Go p e below s₁ F0 T43 (mkF m 52 #[vr a1, vr a2, vi (0 : Int32), vi hs2, vi (31 : Int32), vi t122, vi (0 : Int32)] []) := by rw [h_t122]; exact go123
      have go125 : Go p e below s₁ F0 T43 (mkF m 53 #[vr a1, vr a2, vi (0 : Int32), vi hs2, vi (31 : Int32), vi t122, vi (0 : Int32)] [(.ref a1)]) := by
        intro t_ k_
        refine go124 t_ ?_
        refine o_aloadN X43 hx (hb hby d4_52) rfl rfl ?_
        exact k_
      obtain ⟨T126, X126, e126, st126⟩ := getF X43 hx hZ hown (host := "") (Or.inl (own_w hw 17 rfl)) Via.refl e43 Fsl (g := (mkF m 53 #[vr a1, vr a2, vi (0 : Int32), vi hs2, vi (31 : Int32), vi t122, vi (0 : Int32)] [(.ref a1)])) rfl rfl (hb hby d4_53)
      have go127 : Go p e below s₁ F0 T126 (mkF m 56 #[vr a1, vr a2, vi (0 : Int32), vi hs2, vi (31 : Int32), vi t122, vi (0 : Int32)] [(.ref bs)]) := fun t_ k_ => go125 t_ (st126 t_ k_)
      have go128 : Go p e below s₁ F0 T126 (mkF m 58 #[vr a1, vr a2, vi (0 : Int32), vi hs2, vi (31 : Int32), vi t122, vi (0 : Int32)] [(.int t122), (.ref bs)]) := by
        intro t_ k_
        refine go127 t_ ?_
        refine o_iload X126 hx (hb hby d4_56) rfl ?_
        exact k_
      obtain ⟨cl129, Ar129, -, Sz129, Nn129, Hs129, -⟩ := id Vs
      have hin129 : ¬ (t122 < 0 ∨ cl129.slots.size ≤ (t122).toNatClampNeg) := inb_of Sz129 (own_in2 h_t122)
      have hat129 : cl129.slots[(t122).toNatClampNeg]? = some (.int (0 : Int32)) := Hs129.at hin129 (own_miss (own_in2 h_t122) (own_in hsl) (own_next (own_in hsl) hb52_31 h_t122))
      have go130 : Go p e below s₁ F0 T126 (mkF m 112 #[vr a1, vr a2, vi (0 : Int32), vi hs2, vi (31 : Int32), vi t122, vi (0 : Int32)] [(.ref a1), (.ref a1)]) := by
        intro t_ k_
        refine go128 t_ ?_
        refine o_iaload X126 hx hZ e126 Ar129 hin129 hat129 (hb hby d4_58) ?_
        refine o_ifYes X126 hx (hb hby d4_59) (pc' := 110) rfl (by decide) ((if0 _ _).trans (teq (by decide : (0 : Int32) = (0 : Int32))).1) ?_
        refine o_aloadN X126 hx (hb hby d4_110) rfl rfl ?_
        refine o_dup X126 hx (hb hby d4_111) rfl ?_
        exact k_
      obtain ⟨T131, X131, e131, st131⟩ := getF X126 hx hZ hown (host := "") (Or.inl (own_w hw 36 rfl)) Via.refl e126 Fco (g := (mkF m 112 #[vr a1, vr a2, vi (0 : Int32), vi hs2, vi (31 : Int32), vi t122, vi (0 : Int32)] [(.ref a1), (.ref a1)])) rfl rfl (hb hby d4_112)
      have go132 : Go p e below s₁ F0 T131 (mkF m 115 #[vr a1, vr a2, vi (0 : Int32), vi hs2, vi (31 : Int32), vi t122, vi (0 : Int32)] [(.int (1 : Int32)), (.ref a1)]) := fun t_ k_ => go130 t_ (st131 t_ k_)
      have go133 : Go p e below s₁ F0 T131 (mkF m 118 #[vr a1, vr a2, vi (0 : Int32), vi hs2, vi (31 : Int32), vi t122, vi (0 : Int32)] [(.int (2 : Int32)), (.ref a1), (.int (1 : Int32))]) := by
        intro t_ k_
        refine go132 t_ ?_
        refine o_dupX1 X131 hx (hb hby d4_115) rfl rfl ?_
        refine o_iconst X131 hx (hb hby d4_116) (v := 1) rfl ?_
        refine o_iaddE X131 hx (hb hby d4_117) (v := 2) rfl ?_
        exact k_
      obtain ⟨T134, h134, X134, e134, W134, st134⟩ := putF X131 hx hZ hown (host := "") (Or.inl (own_w hw 36 rfl)) Via.refl e131 Fco E0 (Or.inl (own_w hw 37 rfl)) (own_w hw 1 rfl) (ty := .int) (by decide) rfl rfl (g := (mkF m 118 #[vr a1, vr a2, vi (0 : Int32), vi hs2, vi (31 : Int32), vi t122, vi (0 : Int32)] [(.int (2 : Int32)), (.ref a1), (.int (1 : Int32))])) rfl rfl (hb hby d4_118)
      have Fw134 : Fld Z h134 a1 c_0 "count" "I" (.int (2 : Int32)) := Fld.same W134 Fco
      have K135 : Keep h0 h134 [a1, bw, bh, bs] := K0.wr W134 (Or.inl (List.mem_of_getElem? (i := 0) rfl))
      have Z135 : n0 ≤ h134.size := Nat.le_trans Z0 (Keep.of_wr W134).1
      have N134 := Fr.snoc X134 N27 g1
      have go136 : Go p e below s₁ F0 T134 (mkF m 121 #[vr a1, vr a2, vi (0 : Int32), vi hs2, vi (31 : Int32), vi t122, vi (0 : Int32)] [(.int (1 : Int32))]) := fun t_ k_ => go133 t_ (st134 t_ k_)
      have F137 : Fld Z h134 a1 c_0 "hashes" "[I" (.ref bh) := (Fha.other W134 (Or.inr (slot_ne (Or.inl (own_w hw 16 rfl)) (Or.inl (own_w hw 37 rfl)) (by decide) (t := (.array .int)) (t' := .int) (by decide) (by decide))))
      have go138 : Go p e below s₁ F0 T134 (mkF m 126 #[vr a1, vr a2, vi (0 : Int32), vi hs2, vi (31 : Int32), vi t122, vi (1 : Int32)] [(.ref a1), (.int (1 : Int32))]) := by
        intro t_ k_
        refine go136 t_ ?_
        refine o_istore X134 hx (hb hby d4_121) (L' := #[vr a1, vr a2, vi (0 : Int32), vi hs2, vi (31 : Int32), vi t122, vi (1 : Int32)]) rfl ?_
        refine o_iload X134 hx (hb hby d4_123) rfl ?_
        refine o_aloadN X134 hx (hb hby d4_125) rfl rfl ?_
        exact k_
      obtain ⟨T139, X139, e139, st139⟩ := getF X134 hx hZ hown (host := "") (Or.inl (own_w hw 15 rfl)) Via.refl e134 F137 (g := (mkF m 126 #[vr a1, vr a2, vi (0 : Int32), vi hs2, vi (31 : Int32), vi t122, vi (1 : Int32)] [(.ref a1), (.int (1 : Int32))])) rfl rfl (hb hby d4_126)
      have go140 : Go p e below s₁ F0 T139 (mkF m 129 #[vr a1, vr a2, vi (0 : Int32), vi hs2, vi (31 : Int32), vi t122, vi (1 : Int32)] [(.ref bh), (.int (1 : Int32))]) := fun t_ k_ => go138 t_ (st139 t_ k_)
      have F141 : Arv Z h134 bh kh .int (16 : Int32) ((.int hs) :: own_zi 15) (.int (0 : Int32)) := (Vh.other W134 (Ne.symm nah))
      obtain ⟨cl142, Ar142, -, Sz142, Nn142, -, -⟩ := id F141
      have F143 : Fld Z h134 a1 c_0 "words" "[J" (.ref bw) := (Fwo.other W134 (Or.inr (slot_ne (Or.inl (own_w hw 13 rfl)) (Or.inl (own_w hw 37 rfl)) (by decide) (t := (.array .long)) (t' := .int) (by decide) (by decide))))
      have go144 : Go p e below s₁ F0 T139 (mkF m 171 #[vr a1, vr a2, vi (0 : Int32), vi hs2, vi (31 : Int32), vi t122, vi (1 : Int32)] [(.ref a1), (.int (0 : Int32)), (.ref a2)]) := by
        intro t_ k_
        refine go140 t_ ?_
        refine o_len X139 hx hZ e139 Ar142 Sz142 Nn142 (hb hby d4_129) ?_
        refine o_icmpYes X139 hx (hb hby d4_130) (pc' := 168) rfl (by decide) (feq (by decide : ¬ ((1 : Int32) = (16 : Int32)))).2 ?_
        refine o_aloadN X139 hx (hb hby d4_168) rfl rfl ?_
        refine o_iloadN X139 hx (hb hby d4_169) rfl ?_
        refine o_aloadN X139 hx (hb hby d4_170) rfl rfl ?_
        exact k_
      obtain ⟨T145, X145, e145, st145⟩ := getF X139 hx hZ hown (host := "") (Or.inl (own_w hw 12 rfl)) Via.refl e139 F143 (g := (mkF m 171 #[vr a1, vr a2, vi (0 : Int32), vi hs2, vi (31 : Int32), vi t122, vi (1 : Int32)] [(.ref a1), (.int (0 : Int32)), (.ref a2)])) rfl rfl (hb hby d4_171)
      have go146 : Go p e below s₁ F0 T145 (mkF m 174 #[vr a1, vr a2, vi (0 : Int32), vi hs2, vi (31 : Int32), vi t122, vi (1 : Int32)] [(.ref bw), (.int (0 : Int32)), (.ref a2)]) := fun t_ k_ => go144 t_ (st145 t_ k_)
      have F147 : Fld Z h134 a1 c_0 "width" "I" (.int (2 : Int32)) := (Fwi.other W134 (Or.inr (slot_ne (Or.inr (own_w hw 10 rfl)) (Or.inl (own_w hw 37 rfl)) (by decide) (t := .int) (t' := .int) (by decide) (by decide))))
      have go148 : Go p e below s₁ F0 T145 (mkF m 177 #[vr a1, vr a2, vi (0 : Int32), vi hs2, vi (31 : Int32), vi t122, vi (1 : Int32)] [(.ref a1), (.int (1 : Int32)), (.ref bw), (.int (0 : Int32)), (.ref a2)]) := by
        intro t_ k_
        refine go146 t_ ?_
        refine o_iload X145 hx (hb hby d4_174) rfl ?_
        refine o_aloadN X145 hx (hb hby d4_176) rfl rfl ?_
        exact k_
      obtain ⟨T149, X149, e149, st149⟩ := getF X145 hx hZ hown (host := "") (Or.inl (own_w hw 9 rfl)) Via.refl e145 F147 (g := (mkF m 177 #[vr a1, vr a2, vi (0 : Int32), vi hs2, vi (31 : Int32), vi t122, vi (1 : Int32)] [(.ref a1), (.int (1 : Int32)), (.ref bw), (.int (0 : Int32)), (.ref a2)])) rfl rfl (hb hby d4_177)
      have go150 : Go p e below s₁ F0 T149 (mkF m 180 #[vr a1, vr a2, vi (0 : Int32), vi hs2, vi (31 : Int32), vi t122, vi (1 : Int32)] [(.int (2 : Int32)), (.int (1 : Int32)), (.ref bw), (.int (0 : Int32)), (.ref a2)]) := fun t_ k_ => go148 t_ (st149 t_ k_)
      have go151 : Go p e below s₁ F0 T149 (mkF m 182 #[vr a1, vr a2, vi (0 : Int32), vi hs2, vi (31 : Int32), vi t122, vi (1 : Int32)] [(.ref a1), (.int (2 : Int32)), (.ref bw), (.int (0 : Int32)), (.ref a2)]) := by
        intro t_ k_
        refine go150 t_ ?_
        refine o_imulE X149 hx (hb hby d4_180) (v := 2) rfl ?_
        refine o_aloadN X149 hx (hb hby d4_181) rfl rfl ?_
        exact k_
      obtain ⟨T152, X152, e152, st152⟩ := getF X149 hx hZ hown (host := "") (Or.inl (own_w hw 9 rfl)) Via.refl e149 F147 (g := (mkF m 182 #[vr a1, vr a2, vi (0 : Int32), vi hs2, vi (31 : Int32), vi t122, vi (1 : Int32)] [(.ref a1), (.int (2 : Int32)), (.ref bw), (.int (0 : Int32)), (.ref a2)])) rfl rfl (hb hby d4_182)
      have go153 : Go p e below s₁ F0 T152 (mkF m 185 #[vr a1, vr a2, vi (0 : Int32), vi hs2, vi (31 : Int32), vi t122, vi (1 : Int32)] [(.int (2 : Int32)), (.int (2 : Int32)), (.ref bw), (.int (0 : Int32)), (.ref a2)]) := fun t_ k_ => go151 t_ (st152 t_ k_)
      have F154 : Arv Z h134 a2 k2 .long (2 : Int32) [(.long y0), (.long y1)] (.long (0 : Int64)) := (V2.other W134 (Ne.symm n12))
      have F155 : Arv Z h134 bw kw .long (32 : Int32) ((.long x0) :: (.long x1) :: own_zl 30) (.long (0 : Int64)) := (Vw.other W134 (Ne.symm naw))
      obtain ⟨T156, h156, L156, X156, e156, N156, Kc156, Vc156, st156⟩ := cpA X152 hx hZ hown (own_w hw 38 rfl) (own_w hw 41 rfl) (own_w hw 39 rfl) (own_w hw 40 rfl) e152 F154 F155 (Or.inl ⟨rfl, rfl⟩) (by decide) (by decide) (by decide) (by decide) (by decide) (us := [(.long y0), (.long y1)]) rfl (Nat.le_of_ble_eq_true rfl) N134 gw (g := (mkF m 185 #[vr a1, vr a2, vi (0 : Int32), vi hs2, vi (31 : Int32), vi t122, vi (1 : Int32)] [(.int (2 : Int32)), (.int (2 : Int32)), (.ref bw), (.int (0 : Int32)), (.ref a2)])) rfl (by rw [hml]; rfl) rfl (hb hby d4_185) (by decide) (W := 0) (by show 2 * 0 + _ ≤ _; exact Nat.le_of_eq rfl) (by decide)
      have V156 : Arv Z h156 bw kw .long (32 : Int32) ((.long x0) :: (.long x1) :: (.long y0) :: (.long y1) :: own_zl 28) (.long (0 : Int64)) := Vc156
      have K157 : Keep h0 h156 [a1, bw, bh, bs] := K135.trans Kc156 (allS (Or.inl (List.mem_of_getElem? (i := 1) rfl)) all0)
      have Z157 : n0 ≤ h156.size := Nat.le_trans Z135 Kc156.1
      have go158 : Go p e below s₁ F0 T156 (mkF m 188 #[vr a1, vr a2, vi (0 : Int32), vi hs2, vi (31 : Int32), vi t122, vi (1 : Int32)] []) := fun t_ k_ => go153 t_ (st156 t_ k_)
      have F159 : Fld Z h156 a1 c_0 "hashes" "[I" (.ref bh) := (F137.keep Kc156 (ninS naw nin0))
      have go160 : Go p e below s₁ F0 T156 (mkF m 189 #[vr a1, vr a2, vi (0 : Int32), vi hs2, vi (31 : Int32), vi t122, vi (1 : Int32)] [(.ref a1)]) := by
        intro t_ k_
        refine go158 t_ ?_
        refine o_aloadN X156 hx (hb hby d4_188) rfl rfl ?_
        exact k_
      obtain ⟨T161, X161, e161, st161⟩ := getF X156 hx hZ hown (host := "") (Or.inl (own_w hw 15 rfl)) Via.refl e156 F159 (g := (mkF m 189 #[vr a1, vr a2, vi (0 : Int32), vi hs2, vi (31 : Int32), vi t122, vi (1 : Int32)] [(.ref a1)])) rfl rfl (hb hby d4_189)
      have go162 : Go p e below s₁ F0 T161 (mkF m 192 #[vr a1, vr a2, vi (0 : Int32), vi hs2, vi (31 : Int32), vi t122, vi (1 : Int32)] [(.ref bh)]) := fun t_ k_ => go160 t_ (st161 t_ k_)
      have F163 : Arv Z h156 bh kh .int (16 : Int32) ((.int hs) :: own_zi 15) (.int (0 : Int32)) := (F141.keep Kc156 (ninS (Ne.symm nwh) nin0))
      have go164 : Go p e below s₁ F0 T161 (mkF m 195 #[vr a1, vr a2, vi (0 : Int32), vi hs2, vi (31 : Int32), vi t122, vi (1 : Int32)] [(.int hs2), (.int (1 : Int32)), (.ref bh)]) := by
        intro t_ k_
        refine go162 t_ ?_
        refine o_iload X161 hx (hb hby d4_192) rfl ?_
        refine o_iloadN X161 hx (hb hby d4_194) rfl ?_
        exact k_
      obtain ⟨cl165, Ar165, q165, Sz165, Nn165, Hs165, G165⟩ := id F163
      have hin165 : ¬ ((1 : Int32) < 0 ∨ cl165.slots.size ≤ ((1 : Int32)).toNatClampNeg) := inb_of Sz165 ⟨by decide, by decide⟩
      obtain ⟨T165, h165, X165, e165, W165, st165⟩ := stI X161 hx hZ e161 Ar165 (j := (1 : Int32)) hin165 (g := (mkF m 195 #[vr a1, vr a2, vi (0 : Int32), vi hs2, vi (31 : Int32), vi t122, vi (1 : Int32)] [(.int hs2), (.int (1 : Int32)), (.ref bh)])) rfl rfl (hb hby d4_195)
      have V165 : Arv Z h165 bh kh .int (16 : Int32) ((.int hs) :: (.int hs2) :: own_zi 14) (.int (0 : Int32)) := Arv.set Ar165 q165 Sz165 Nn165 Hs165 G165 rfl W165 1 rfl (Nat.le_of_ble_eq_true rfl)
      have K166 : Keep h0 h165 [a1, bw, bh, bs] := K157.wr W165 (Or.inl (List.mem_of_getElem? (i := 2) rfl))
      have Z166 : n0 ≤ h165.size := Nat.le_trans Z157 (Keep.of_wr W165).1
      have N165 := Fr.snoc X165 N156 gh
      have go167 : Go p e below s₁ F0 T165 (mkF m 196 #[vr a1, vr a2, vi (0 : Int32), vi hs2, vi (31 : Int32), vi t122, vi (1 : Int32)] []) := fun t_ k_ => go164 t_ (st165 t_ k_)
      have F168 : Fld Z h165 a1 c_0 "slots" "[I" (.ref bs) := (((Fsl.other W134 (Or.inr (slot_ne (Or.inl (own_w hw 18 rfl)) (Or.inl (own_w hw 37 rfl)) (by decide) (t := (.array .int)) (t' := .int) (by decide) (by decide)))).keep Kc156 (ninS naw nin0)).other W165 (Or.inl nah))
      have go169 : Go p e below s₁ F0 T165 (mkF m 197 #[vr a1, vr a2, vi (0 : Int32), vi hs2, vi (31 : Int32), vi t122, vi (1 : Int32)] [(.ref a1)]) := by
        intro t_ k_
        refine go167 t_ ?_
        refine o_aloadN X165 hx (hb hby d4_196) rfl rfl ?_
        exact k_
      obtain ⟨T170, X170, e170, st170⟩ := getF X165 hx hZ hown (host := "") (Or.inl (own_w hw 17 rfl)) Via.refl e165 F168 (g := (mkF m 197 #[vr a1, vr a2, vi (0 : Int32), vi hs2, vi (31 : Int32), vi t122, vi (1 : Int32)] [(.ref a1)])) rfl rfl (hb hby d4_197)
      have go171 : Go p e below s₁ F0 T170 (mkF m 200 #[vr a1, vr a2, vi (0 : Int32), vi hs2, vi (31 : Int32), vi t122, vi (1 : Int32)] [(.ref bs)]) := fun t_ k_ => go169 t_ (st170 t_ k_)
      have F172 : Arv Z h165 bs ks .int (32 : Int32) (own_sl sl) (.int (0 : Int32)) := (((Vs.other W134 (Ne.symm nas)).keep Kc156 (ninS (Ne.symm nws) nin0)).other W165 (Ne.symm nhs))
      have go173 : Go p e below s₁ F0 T170 (mkF m 206 #[vr a1, vr a2, vi (0 : Int32), vi hs2, vi (31 : Int32), vi t122, vi (1 : Int32)] [(.int (2 : Int32)), (.int t122), (.ref bs)]) := by
        intro t_ k_
        refine go171 t_ ?_
        refine o_iload X170 hx (hb hby d4_200) rfl ?_
        refine o_iload X170 hx (hb hby d4_202) rfl ?_
        refine o_iconst X170 hx (hb hby d4_204) (v := 1) rfl ?_
        refine o_iaddE X170 hx (hb hby d4_205) (v := 2) rfl ?_
        exact k_
      obtain ⟨cl174, Ar174, q174, Sz174, Nn174, Hs174, G174⟩ := id F172
      have hin174 : ¬ (t122 < 0 ∨ cl174.slots.size ≤ (t122).toNatClampNeg) := inb_of Sz174 (own_in2 h_t122)
      obtain ⟨T174, h174, X174, e174, W174, st174⟩ := stI X170 hx hZ e170 Ar174 (j := t122) hin174 (g := (mkF m 206 #[vr a1, vr a2, vi (0 : Int32), vi hs2, vi (31 : Int32), vi t122, vi (1 : Int32)] [(.int (2 : Int32)), (.int t122), (.ref bs)])) rfl rfl (hb hby d4_206)
      have V174 : Arv Z h174 bs ks .int (32 : Int32) ((own_sl sl).set t122.toNatClampNeg (.int (2 : Int32))) (.int (0 : Int32)) := Arv.set Ar174 q174 Sz174 Nn174 Hs174 G174 rfl W174 t122.toNatClampNeg rfl (own_ls (own_in2 h_t122))
      have K175 : Keep h0 h174 [a1, bw, bh, bs] := K166.wr W174 (Or.inl (List.mem_of_getElem? (i := 3) rfl))
      have Z175 : n0 ≤ h174.size := Nat.le_trans Z166 (Keep.of_wr W174).1
      have N174 := Fr.snoc X174 N165 gs
      have go176 : Go p e below s₁ F0 T174 (mkF m 207 #[vr a1, vr a2, vi (0 : Int32), vi hs2, vi (31 : Int32), vi t122, vi (1 : Int32)] []) := fun t_ k_ => go173 t_ (st174 t_ k_)
      have F177 : Fld Z h174 a1 c_0 "count" "I" (.int (2 : Int32)) := (((Fw134.keep Kc156 (ninS naw nin0)).other W165 (Or.inl nah)).other W174 (Or.inl nas))
      have go178 : Go p e below s₁ F0 T174 (mkF m 209 #[vr a1, vr a2, vi (0 : Int32), vi hs2, vi (31 : Int32), vi t122, vi (1 : Int32)] [(.ref a1), (.int (2 : Int32))]) := by
        intro t_ k_
        refine go176 t_ ?_
        refine o_iconst X174 hx (hb hby d4_207) (v := 2) rfl ?_
        refine o_aloadN X174 hx (hb hby d4_208) rfl rfl ?_
        exact k_
      obtain ⟨T179, X179, e179, st179⟩ := getF X174 hx hZ hown (host := "") (Or.inl (own_w hw 36 rfl)) Via.refl e174 F177 (g := (mkF m 209 #[vr a1, vr a2, vi (0 : Int32), vi hs2, vi (31 : Int32), vi t122, vi (1 : Int32)] [(.ref a1), (.int (2 : Int32))])) rfl rfl (hb hby d4_209)
      have go180 : Go p e below s₁ F0 T179 (mkF m 212 #[vr a1, vr a2, vi (0 : Int32), vi hs2, vi (31 : Int32), vi t122, vi (1 : Int32)] [(.int (2 : Int32)), (.int (2 : Int32))]) := fun t_ k_ => go178 t_ (st179 t_ k_)
      have F181 : Fld Z h174 a1 c_0 "slots" "[I" (.ref bs) := (F168.other W174 (Or.inl nas))
      have go182 : Go p e below s₁ F0 T179 (mkF m 214 #[vr a1, vr a2, vi (0 : Int32), vi hs2, vi (31 : Int32), vi t122, vi (1 : Int32)] [(.ref a1), (.int (4 : Int32))]) := by
        intro t_ k_
        refine go180 t_ ?_
        refine o_imulE X179 hx (hb hby d4_212) (v := 4) rfl ?_
        refine o_aloadN X179 hx (hb hby d4_213) rfl rfl ?_
        exact k_
      obtain ⟨T183, X183, e183, st183⟩ := getF X179 hx hZ hown (host := "") (Or.inl (own_w hw 17 rfl)) Via.refl e179 F181 (g := (mkF m 214 #[vr a1, vr a2, vi (0 : Int32), vi hs2, vi (31 : Int32), vi t122, vi (1 : Int32)] [(.ref a1), (.int (4 : Int32))])) rfl rfl (hb hby d4_214)
      have go184 : Go p e below s₁ F0 T183 (mkF m 217 #[vr a1, vr a2, vi (0 : Int32), vi hs2, vi (31 : Int32), vi t122, vi (1 : Int32)] [(.ref bs), (.int (4 : Int32))]) := fun t_ k_ => go182 t_ (st183 t_ k_)
      obtain ⟨cl185, Ar185, -, Sz185, Nn185, -, -⟩ := id V174
      have go186 : Go p e below s₁ F0 T183 (mkF m 227 #[vr a1, vr a2, vi (0 : Int32), vi hs2, vi (31 : Int32), vi t122, vi (1 : Int32)] [(.int (1 : Int32))]) := by
        intro t_ k_
        refine go184 t_ ?_
        refine o_len X183 hx hZ e183 Ar185 Sz185 Nn185 (hb hby d4_217) ?_
        refine o_icmpYes X183 hx (hb hby d4_218) (pc' := 225) rfl (by decide) (flt (by decide : ¬ ((32 : Int32) < (4 : Int32)))).2.2.2 ?_
        refine o_iload X183 hx (hb hby d4_225) rfl ?_
        exact k_
      obtain ⟨fs, hr, hrun, hended, hW, hsame⟩ := X183.leave (v := some (.int (1 : Int32))) (fun h => by rw [Bd.returns] at h; cases h)
      refine ⟨_, _, pre0 _ (go186 _ ?_), hrun, hended, _, _, rfl, ?_, ⟨_, rfl⟩, hW, hsame.mono (by decide) (by decide)⟩
      · skip
        exact retI X183 hx Bd.returns (hb hby d4_227) hr
      · show Q4_b2 Z a1 a2 bw bh bs kw kh ks k2 hs sl x0 x1 y0 y1 h0 n0 _ T183.heap _
        rw [e183]
        have F187 : Fld Z h174 a1 c_0 "width" "I" (.int (2 : Int32)) := (((F147.keep Kc156 (ninS naw nin0)).other W165 (Or.inl nah)).other W174 (Or.inl nas))
        have F188 : Fld Z h174 a1 c_0 "words" "[J" (.ref bw) := (((F143.keep Kc156 (ninS naw nin0)).other W165 (Or.inl nah)).other W174 (Or.inl nas))
        have F189 : Arv Z h174 bw kw .long (32 : Int32) ((.long x0) :: (.long x1) :: (.long y0) :: (.long y1) :: own_zl 28) (.long (0 : Int64)) := ((V156.other W165 nwh).other W174 nws)
        exact ⟨(1 : Int32), y0, y1, rfl, N174, K175, F187, F188, F189, (Or.inr ⟨rfl, (own_neH_2 hhs h_hs2 hc81_48), rfl, rfl⟩)⟩
  · skip
    have go190 : Go p e below s₁ F0 T27 (mkF m 53 #[vr a1, vr a2, vi (0 : Int32), vi hs2, vi (31 : Int32), vi t, .unset] [(.ref a1)]) := by
      intro t_ k_
      refine go30 t_ ?_
      refine o_aloadN X27 hx (hb hby d4_52) rfl rfl ?_
      exact k_
    obtain ⟨T191, X191, e191, st191⟩ := getF X27 hx hZ hown (host := "") (Or.inl (own_w hw 17 rfl)) Via.refl eh27 Fsl (g := (mkF m 53 #[vr a1, vr a2, vi (0 : Int32), vi hs2, vi (31 : Int32), vi t, .unset] [(.ref a1)])) rfl rfl (hb hby d4_53)
    have go192 : Go p e below s₁ F0 T191 (mkF m 56 #[vr a1, vr a2, vi (0 : Int32), vi hs2, vi (31 : Int32), vi t, .unset] [(.ref bs)]) := fun t_ k_ => go190 t_ (st191 t_ k_)
    have go193 : Go p e below s₁ F0 T191 (mkF m 58 #[vr a1, vr a2, vi (0 : Int32), vi hs2, vi (31 : Int32), vi t, .unset] [(.int t), (.ref bs)]) := by
      intro t_ k_
      refine go192 t_ ?_
      refine o_iload X191 hx (hb hby d4_56) rfl ?_
      exact k_
    obtain ⟨cl194, Ar194, -, Sz194, Nn194, Hs194, -⟩ := id Vs
    have hin194 : ¬ (t < 0 ∨ cl194.slots.size ≤ (t).toNatClampNeg) := inb_of Sz194 (own_in h_t)
    have hat194 : cl194.slots[(t).toNatClampNeg]? = some (.int (0 : Int32)) := Hs194.at hin194 (own_miss (own_in h_t) (own_in hsl) hb52_31)
    have go195 : Go p e below s₁ F0 T191 (mkF m 112 #[vr a1, vr a2, vi (0 : Int32), vi hs2, vi (31 : Int32), vi t, .unset] [(.ref a1), (.ref a1)]) := by
      intro t_ k_
      refine go193 t_ ?_
      refine o_iaload X191 hx hZ e191 Ar194 hin194 hat194 (hb hby d4_58) ?_
      refine o_ifYes X191 hx (hb hby d4_59) (pc' := 110) rfl (by decide) ((if0 _ _).trans (teq (by decide : (0 : Int32) = (0 : Int32))).1) ?_
      refine o_aloadN X191 hx (hb hby d4_110) rfl rfl ?_
      refine o_dup X191 hx (hb hby d4_111) rfl ?_
      exact k_
    obtain ⟨T196, X196, e196, st196⟩ := getF X191 hx hZ hown (host := "") (Or.inl (own_w hw 36 rfl)) Via.refl e191 Fco (g := (mkF m 112 #[vr a1, vr a2, vi (0 : Int32), vi hs2, vi (31 : Int32), vi t, .unset] [(.ref a1), (.ref a1)])) rfl rfl (hb hby d4_112)
    have go197 : Go p e below s₁ F0 T196 (mkF m 115 #[vr a1, vr a2, vi (0 : Int32), vi hs2, vi (31 : Int32), vi t, .unset] [(.int (1 : Int32)), (.ref a1)]) := fun t_ k_ => go195 t_ (st196 t_ k_)
    have go198 : Go p e below s₁ F0 T196 (mkF m 118 #[vr a1, vr a2, vi (0 : Int32), vi hs2, vi (31 : Int32), vi t, .unset] [(.int (2 : Int32)), (.ref a1), (.int (1 : Int32))]) := by
      intro t_ k_
      refine go197 t_ ?_
      refine o_dupX1 X196 hx (hb hby d4_115) rfl rfl ?_
      refine o_iconst X196 hx (hb hby d4_116) (v := 1) rfl ?_
      refine o_iaddE X196 hx (hb hby d4_117) (v := 2) rfl ?_
      exact k_
    obtain ⟨T199, h199, X199, e199, W199, st199⟩ := putF X196 hx hZ hown (host := "") (Or.inl (own_w hw 36 rfl)) Via.refl e196 Fco E0 (Or.inl (own_w hw 37 rfl)) (own_w hw 1 rfl) (ty := .int) (by decide) rfl rfl (g := (mkF m 118 #[vr a1, vr a2, vi (0 : Int32), vi hs2, vi (31 : Int32), vi t, .unset] [(.int (2 : Int32)), (.ref a1), (.int (1 : Int32))])) rfl rfl (hb hby d4_118)
    have Fw199 : Fld Z h199 a1 c_0 "count" "I" (.int (2 : Int32)) := Fld.same W199 Fco
    have K200 : Keep h0 h199 [a1, bw, bh, bs] := K0.wr W199 (Or.inl (List.mem_of_getElem? (i := 0) rfl))
    have Z200 : n0 ≤ h199.size := Nat.le_trans Z0 (Keep.of_wr W199).1
    have N199 := Fr.snoc X199 N27 g1
    have go201 : Go p e below s₁ F0 T199 (mkF m 121 #[vr a1, vr a2, vi (0 : Int32), vi hs2, vi (31 : Int32), vi t, .unset] [(.int (1 : Int32))]) := fun t_ k_ => go198 t_ (st199 t_ k_)
    have F202 : Fld Z h199 a1 c_0 "hashes" "[I" (.ref bh) := (Fha.other W199 (Or.inr (slot_ne (Or.inl (own_w hw 16 rfl)) (Or.inl (own_w hw 37 rfl)) (by decide) (t := (.array .int)) (t' := .int) (by decide) (by decide))))
    have go203 : Go p e below s₁ F0 T199 (mkF m 126 #[vr a1, vr a2, vi (0 : Int32), vi hs2, vi (31 : Int32), vi t, vi (1 : Int32)] [(.ref a1), (.int (1 : Int32))]) := by
      intro t_ k_
      refine go201 t_ ?_
      refine o_istore X199 hx (hb hby d4_121) (L' := #[vr a1, vr a2, vi (0 : Int32), vi hs2, vi (31 : Int32), vi t, vi (1 : Int32)]) rfl ?_
      refine o_iload X199 hx (hb hby d4_123) rfl ?_
      refine o_aloadN X199 hx (hb hby d4_125) rfl rfl ?_
      exact k_
    obtain ⟨T204, X204, e204, st204⟩ := getF X199 hx hZ hown (host := "") (Or.inl (own_w hw 15 rfl)) Via.refl e199 F202 (g := (mkF m 126 #[vr a1, vr a2, vi (0 : Int32), vi hs2, vi (31 : Int32), vi t, vi (1 : Int32)] [(.ref a1), (.int (1 : Int32))])) rfl rfl (hb hby d4_126)
    have go205 : Go p e below s₁ F0 T204 (mkF m 129 #[vr a1, vr a2, vi (0 : Int32), vi hs2, vi (31 : Int32), vi t, vi (1 : Int32)] [(.ref bh), (.int (1 : Int32))]) := fun t_ k_ => go203 t_ (st204 t_ k_)
    have F206 : Arv Z h199 bh kh .int (16 : Int32) ((.int hs) :: own_zi 15) (.int (0 : Int32)) := (Vh.other W199 (Ne.symm nah))
    obtain ⟨cl207, Ar207, -, Sz207, Nn207, -, -⟩ := id F206
    have F208 : Fld Z h199 a1 c_0 "words" "[J" (.ref bw) := (Fwo.other W199 (Or.inr (slot_ne (Or.inl (own_w hw 13 rfl)) (Or.inl (own_w hw 37 rfl)) (by decide) (t := (.array .long)) (t' := .int) (by decide) (by decide))))
    have go209 : Go p e below s₁ F0 T204 (mkF m 171 #[vr a1, vr a2, vi (0 : Int32), vi hs2, vi (31 : Int32), vi t, vi (1 : Int32)] [(.ref a1), (.int (0 : Int32)), (.ref a2)]) := by
      intro t_ k_
      refine go205 t_ ?_
      refine o_len X204 hx hZ e204 Ar207 Sz207 Nn207 (hb hby d4_129) ?_
      refine o_icmpYes X204 hx (hb hby d4_130) (pc' := 168) rfl (by decide) (feq (by decide : ¬ ((1 : Int32) = (16 : Int32)))).2 ?_
      refine o_aloadN X204 hx (hb hby d4_168) rfl rfl ?_
      refine o_iloadN X204 hx (hb hby d4_169) rfl ?_
      refine o_aloadN X204 hx (hb hby d4_170) rfl rfl ?_
      exact k_
    obtain ⟨T210, X210, e210, st210⟩ := getF X204 hx hZ hown (host := "") (Or.inl (own_w hw 12 rfl)) Via.refl e204 F208 (g := (mkF m 171 #[vr a1, vr a2, vi (0 : Int32), vi hs2, vi (31 : Int32), vi t, vi (1 : Int32)] [(.ref a1), (.int (0 : Int32)), (.ref a2)])) rfl rfl (hb hby d4_171)
    have go211 : Go p e below s₁ F0 T210 (mkF m 174 #[vr a1, vr a2, vi (0 : Int32), vi hs2, vi (31 : Int32), vi t, vi (1 : Int32)] [(.ref bw), (.int (0 : Int32)), (.ref a2)]) := fun t_ k_ => go209 t_ (st210 t_ k_)
    have F212 : Fld Z h199 a1 c_0 "width" "I" (.int (2 : Int32)) := (Fwi.other W199 (Or.inr (slot_ne (Or.inr (own_w hw 10 rfl)) (Or.inl (own_w hw 37 rfl)) (by decide) (t := .int) (t' := .int) (by decide) (by decide))))
    have go213 : Go p e below s₁ F0 T210 (mkF m 177 #[vr a1, vr a2, vi (0 : Int32), vi hs2, vi (31 : Int32), vi t, vi (1 : Int32)] [(.ref a1), (.int (1 : Int32)), (.ref bw), (.int (0 : Int32)), (.ref a2)]) := by
      intro t_ k_
      refine go211 t_ ?_
      refine o_iload X210 hx (hb hby d4_174) rfl ?_
      refine o_aloadN X210 hx (hb hby d4_176) rfl rfl ?_
      exact k_
    obtain ⟨T214, X214, e214, st214⟩ := getF X210 hx hZ hown (host := "") (Or.inl (own_w hw 9 rfl)) Via.refl e210 F212 (g := (mkF m 177 #[vr a1, vr a2, vi (0 : Int32), vi hs2, vi (31 : Int32), vi t, vi (1 : Int32)] [(.ref a1), (.int (1 : Int32)), (.ref bw), (.int (0 : Int32)), (.ref a2)])) rfl rfl (hb hby d4_177)
    have go215 : Go p e below s₁ F0 T214 (mkF m 180 #[vr a1, vr a2, vi (0 : Int32), vi hs2, vi (31 : Int32), vi t, vi (1 : Int32)] [(.int (2 : Int32)), (.int (1 : Int32)), (.ref bw), (.int (0 : Int32)), (.ref a2)]) := fun t_ k_ => go213 t_ (st214 t_ k_)
    have go216 : Go p e below s₁ F0 T214 (mkF m 182 #[vr a1, vr a2, vi (0 : Int32), vi hs2, vi (31 : Int32), vi t, vi (1 : Int32)] [(.ref a1), (.int (2 : Int32)), (.ref bw), (.int (0 : Int32)), (.ref a2)]) := by
      intro t_ k_
      refine go215 t_ ?_
      refine o_imulE X214 hx (hb hby d4_180) (v := 2) rfl ?_
      refine o_aloadN X214 hx (hb hby d4_181) rfl rfl ?_
      exact k_
    obtain ⟨T217, X217, e217, st217⟩ := getF X214 hx hZ hown (host := "") (Or.inl (own_w hw 9 rfl)) Via.refl e214 F212 (g := (mkF m 182 #[vr a1, vr a2, vi (0 : Int32), vi hs2, vi (31 : Int32), vi t, vi (1 : Int32)] [(.ref a1), (.int (2 : Int32)), (.ref bw), (.int (0 : Int32)), (.ref a2)])) rfl rfl (hb hby d4_182)
    have go218 : Go p e below s₁ F0 T217 (mkF m 185 #[vr a1, vr a2, vi (0 : Int32), vi hs2, vi (31 : Int32), vi t, vi (1 : Int32)] [(.int (2 : Int32)), (.int (2 : Int32)), (.ref bw), (.int (0 : Int32)), (.ref a2)]) := fun t_ k_ => go216 t_ (st217 t_ k_)
    have F219 : Arv Z h199 a2 k2 .long (2 : Int32) [(.long y0), (.long y1)] (.long (0 : Int64)) := (V2.other W199 (Ne.symm n12))
    have F220 : Arv Z h199 bw kw .long (32 : Int32) ((.long x0) :: (.long x1) :: own_zl 30) (.long (0 : Int64)) := (Vw.other W199 (Ne.symm naw))
    obtain ⟨T221, h221, L221, X221, e221, N221, Kc221, Vc221, st221⟩ := cpA X217 hx hZ hown (own_w hw 38 rfl) (own_w hw 41 rfl) (own_w hw 39 rfl) (own_w hw 40 rfl) e217 F219 F220 (Or.inl ⟨rfl, rfl⟩) (by decide) (by decide) (by decide) (by decide) (by decide) (us := [(.long y0), (.long y1)]) rfl (Nat.le_of_ble_eq_true rfl) N199 gw (g := (mkF m 185 #[vr a1, vr a2, vi (0 : Int32), vi hs2, vi (31 : Int32), vi t, vi (1 : Int32)] [(.int (2 : Int32)), (.int (2 : Int32)), (.ref bw), (.int (0 : Int32)), (.ref a2)])) rfl (by rw [hml]; rfl) rfl (hb hby d4_185) (by decide) (W := 0) (by show 2 * 0 + _ ≤ _; exact Nat.le_of_eq rfl) (by decide)
    have V221 : Arv Z h221 bw kw .long (32 : Int32) ((.long x0) :: (.long x1) :: (.long y0) :: (.long y1) :: own_zl 28) (.long (0 : Int64)) := Vc221
    have K222 : Keep h0 h221 [a1, bw, bh, bs] := K200.trans Kc221 (allS (Or.inl (List.mem_of_getElem? (i := 1) rfl)) all0)
    have Z222 : n0 ≤ h221.size := Nat.le_trans Z200 Kc221.1
    have go223 : Go p e below s₁ F0 T221 (mkF m 188 #[vr a1, vr a2, vi (0 : Int32), vi hs2, vi (31 : Int32), vi t, vi (1 : Int32)] []) := fun t_ k_ => go218 t_ (st221 t_ k_)
    have F224 : Fld Z h221 a1 c_0 "hashes" "[I" (.ref bh) := (F202.keep Kc221 (ninS naw nin0))
    have go225 : Go p e below s₁ F0 T221 (mkF m 189 #[vr a1, vr a2, vi (0 : Int32), vi hs2, vi (31 : Int32), vi t, vi (1 : Int32)] [(.ref a1)]) := by
      intro t_ k_
      refine go223 t_ ?_
      refine o_aloadN X221 hx (hb hby d4_188) rfl rfl ?_
      exact k_
    obtain ⟨T226, X226, e226, st226⟩ := getF X221 hx hZ hown (host := "") (Or.inl (own_w hw 15 rfl)) Via.refl e221 F224 (g := (mkF m 189 #[vr a1, vr a2, vi (0 : Int32), vi hs2, vi (31 : Int32), vi t, vi (1 : Int32)] [(.ref a1)])) rfl rfl (hb hby d4_189)
    have go227 : Go p e below s₁ F0 T226 (mkF m 192 #[vr a1, vr a2, vi (0 : Int32), vi hs2, vi (31 : Int32), vi t, vi (1 : Int32)] [(.ref bh)]) := fun t_ k_ => go225 t_ (st226 t_ k_)
    have F228 : Arv Z h221 bh kh .int (16 : Int32) ((.int hs) :: own_zi 15) (.int (0 : Int32)) := (F206.keep Kc221 (ninS (Ne.symm nwh) nin0))
    have go229 : Go p e below s₁ F0 T226 (mkF m 195 #[vr a1, vr a2, vi (0 : Int32), vi hs2, vi (31 : Int32), vi t, vi (1 : Int32)] [(.int hs2), (.int (1 : Int32)), (.ref bh)]) := by
      intro t_ k_
      refine go227 t_ ?_
      refine o_iload X226 hx (hb hby d4_192) rfl ?_
      refine o_iloadN X226 hx (hb hby d4_194) rfl ?_
      exact k_
    obtain ⟨cl230, Ar230, q230, Sz230, Nn230, Hs230, G230⟩ := id F228
    have hin230 : ¬ ((1 : Int32) < 0 ∨ cl230.slots.size ≤ ((1 : Int32)).toNatClampNeg) := inb_of Sz230 ⟨by decide, by decide⟩
    obtain ⟨T230, h230, X230, e230, W230, st230⟩ := stI X226 hx hZ e226 Ar230 (j := (1 : Int32)) hin230 (g := (mkF m 195 #[vr a1, vr a2, vi (0 : Int32), vi hs2, vi (31 : Int32), vi t, vi (1 : Int32)] [(.int hs2), (.int (1 : Int32)), (.ref bh)])) rfl rfl (hb hby d4_195)
    have V230 : Arv Z h230 bh kh .int (16 : Int32) ((.int hs) :: (.int hs2) :: own_zi 14) (.int (0 : Int32)) := Arv.set Ar230 q230 Sz230 Nn230 Hs230 G230 rfl W230 1 rfl (Nat.le_of_ble_eq_true rfl)
    have K231 : Keep h0 h230 [a1, bw, bh, bs] := K222.wr W230 (Or.inl (List.mem_of_getElem? (i := 2) rfl))
    have Z231 : n0 ≤ h230.size := Nat.le_trans Z222 (Keep.of_wr W230).1
    have N230 := Fr.snoc X230 N221 gh
    have go232 : Go p e below s₁ F0 T230 (mkF m 196 #[vr a1, vr a2, vi (0 : Int32), vi hs2, vi (31 : Int32), vi t, vi (1 : Int32)] []) := fun t_ k_ => go229 t_ (st230 t_ k_)
    have F233 : Fld Z h230 a1 c_0 "slots" "[I" (.ref bs) := (((Fsl.other W199 (Or.inr (slot_ne (Or.inl (own_w hw 18 rfl)) (Or.inl (own_w hw 37 rfl)) (by decide) (t := (.array .int)) (t' := .int) (by decide) (by decide)))).keep Kc221 (ninS naw nin0)).other W230 (Or.inl nah))
    have go234 : Go p e below s₁ F0 T230 (mkF m 197 #[vr a1, vr a2, vi (0 : Int32), vi hs2, vi (31 : Int32), vi t, vi (1 : Int32)] [(.ref a1)]) := by
      intro t_ k_
      refine go232 t_ ?_
      refine o_aloadN X230 hx (hb hby d4_196) rfl rfl ?_
      exact k_
    obtain ⟨T235, X235, e235, st235⟩ := getF X230 hx hZ hown (host := "") (Or.inl (own_w hw 17 rfl)) Via.refl e230 F233 (g := (mkF m 197 #[vr a1, vr a2, vi (0 : Int32), vi hs2, vi (31 : Int32), vi t, vi (1 : Int32)] [(.ref a1)])) rfl rfl (hb hby d4_197)
    have go236 : Go p e below s₁ F0 T235 (mkF m 200 #[vr a1, vr a2, vi (0 : Int32), vi hs2, vi (31 : Int32), vi t, vi (1 : Int32)] [(.ref bs)]) := fun t_ k_ => go234 t_ (st235 t_ k_)
    have F237 : Arv Z h230 bs ks .int (32 : Int32) (own_sl sl) (.int (0 : Int32)) := (((Vs.other W199 (Ne.symm nas)).keep Kc221 (ninS (Ne.symm nws) nin0)).other W230 (Ne.symm nhs))
    have go238 : Go p e below s₁ F0 T235 (mkF m 206 #[vr a1, vr a2, vi (0 : Int32), vi hs2, vi (31 : Int32), vi t, vi (1 : Int32)] [(.int (2 : Int32)), (.int t), (.ref bs)]) := by
      intro t_ k_
      refine go236 t_ ?_
      refine o_iload X235 hx (hb hby d4_200) rfl ?_
      refine o_iload X235 hx (hb hby d4_202) rfl ?_
      refine o_iconst X235 hx (hb hby d4_204) (v := 1) rfl ?_
      refine o_iaddE X235 hx (hb hby d4_205) (v := 2) rfl ?_
      exact k_
    obtain ⟨cl239, Ar239, q239, Sz239, Nn239, Hs239, G239⟩ := id F237
    have hin239 : ¬ (t < 0 ∨ cl239.slots.size ≤ (t).toNatClampNeg) := inb_of Sz239 (own_in h_t)
    obtain ⟨T239, h239, X239, e239, W239, st239⟩ := stI X235 hx hZ e235 Ar239 (j := t) hin239 (g := (mkF m 206 #[vr a1, vr a2, vi (0 : Int32), vi hs2, vi (31 : Int32), vi t, vi (1 : Int32)] [(.int (2 : Int32)), (.int t), (.ref bs)])) rfl rfl (hb hby d4_206)
    have V239 : Arv Z h239 bs ks .int (32 : Int32) ((own_sl sl).set t.toNatClampNeg (.int (2 : Int32))) (.int (0 : Int32)) := Arv.set Ar239 q239 Sz239 Nn239 Hs239 G239 rfl W239 t.toNatClampNeg rfl (own_ls (own_in h_t))
    have K240 : Keep h0 h239 [a1, bw, bh, bs] := K231.wr W239 (Or.inl (List.mem_of_getElem? (i := 3) rfl))
    have Z240 : n0 ≤ h239.size := Nat.le_trans Z231 (Keep.of_wr W239).1
    have N239 := Fr.snoc X239 N230 gs
    have go241 : Go p e below s₁ F0 T239 (mkF m 207 #[vr a1, vr a2, vi (0 : Int32), vi hs2, vi (31 : Int32), vi t, vi (1 : Int32)] []) := fun t_ k_ => go238 t_ (st239 t_ k_)
    have F242 : Fld Z h239 a1 c_0 "count" "I" (.int (2 : Int32)) := (((Fw199.keep Kc221 (ninS naw nin0)).other W230 (Or.inl nah)).other W239 (Or.inl nas))
    have go243 : Go p e below s₁ F0 T239 (mkF m 209 #[vr a1, vr a2, vi (0 : Int32), vi hs2, vi (31 : Int32), vi t, vi (1 : Int32)] [(.ref a1), (.int (2 : Int32))]) := by
      intro t_ k_
      refine go241 t_ ?_
      refine o_iconst X239 hx (hb hby d4_207) (v := 2) rfl ?_
      refine o_aloadN X239 hx (hb hby d4_208) rfl rfl ?_
      exact k_
    obtain ⟨T244, X244, e244, st244⟩ := getF X239 hx hZ hown (host := "") (Or.inl (own_w hw 36 rfl)) Via.refl e239 F242 (g := (mkF m 209 #[vr a1, vr a2, vi (0 : Int32), vi hs2, vi (31 : Int32), vi t, vi (1 : Int32)] [(.ref a1), (.int (2 : Int32))])) rfl rfl (hb hby d4_209)
    have go245 : Go p e below s₁ F0 T244 (mkF m 212 #[vr a1, vr a2, vi (0 : Int32), vi hs2, vi (31 : Int32), vi t, vi (1 : Int32)] [(.int (2 : Int32)), (.int (2 : Int32))]) := fun t_ k_ => go243 t_ (st244 t_ k_)
    have F246 : Fld Z h239 a1 c_0 "slots" "[I" (.ref bs) := (F233.other W239 (Or.inl nas))
    have go247 : Go p e below s₁ F0 T244 (mkF m 214 #[vr a1, vr a2, vi (0 : Int32), vi hs2, vi (31 : Int32), vi t, vi (1 : Int32)] [(.ref a1), (.int (4 : Int32))]) := by
      intro t_ k_
      refine go245 t_ ?_
      refine o_imulE X244 hx (hb hby d4_212) (v := 4) rfl ?_
      refine o_aloadN X244 hx (hb hby d4_213) rfl rfl ?_
      exact k_
    obtain ⟨T248, X248, e248, st248⟩ := getF X244 hx hZ hown (host := "") (Or.inl (own_w hw 17 rfl)) Via.refl e244 F246 (g := (mkF m 214 #[vr a1, vr a2, vi (0 : Int32), vi hs2, vi (31 : Int32), vi t, vi (1 : Int32)] [(.ref a1), (.int (4 : Int32))])) rfl rfl (hb hby d4_214)
    have go249 : Go p e below s₁ F0 T248 (mkF m 217 #[vr a1, vr a2, vi (0 : Int32), vi hs2, vi (31 : Int32), vi t, vi (1 : Int32)] [(.ref bs), (.int (4 : Int32))]) := fun t_ k_ => go247 t_ (st248 t_ k_)
    obtain ⟨cl250, Ar250, -, Sz250, Nn250, -, -⟩ := id V239
    have go251 : Go p e below s₁ F0 T248 (mkF m 227 #[vr a1, vr a2, vi (0 : Int32), vi hs2, vi (31 : Int32), vi t, vi (1 : Int32)] [(.int (1 : Int32))]) := by
      intro t_ k_
      refine go249 t_ ?_
      refine o_len X248 hx hZ e248 Ar250 Sz250 Nn250 (hb hby d4_217) ?_
      refine o_icmpYes X248 hx (hb hby d4_218) (pc' := 225) rfl (by decide) (flt (by decide : ¬ ((32 : Int32) < (4 : Int32)))).2.2.2 ?_
      refine o_iload X248 hx (hb hby d4_225) rfl ?_
      exact k_
    obtain ⟨fs, hr, hrun, hended, hW, hsame⟩ := X248.leave (v := some (.int (1 : Int32))) (fun h => by rw [Bd.returns] at h; cases h)
    refine ⟨_, _, pre0 _ (go251 _ ?_), hrun, hended, _, _, rfl, ?_, ⟨_, rfl⟩, hW, hsame.mono (by decide) (by decide)⟩
    · skip
      exact retI X248 hx Bd.returns (hb hby d4_227) hr
    · show Q4_b2 Z a1 a2 bw bh bs kw kh ks k2 hs sl x0 x1 y0 y1 h0 n0 _ T248.heap _
      rw [e248]
      have F252 : Fld Z h239 a1 c_0 "width" "I" (.int (2 : Int32)) := (((F212.keep Kc221 (ninS naw nin0)).other W230 (Or.inl nah)).other W239 (Or.inl nas))
      have F253 : Fld Z h239 a1 c_0 "words" "[J" (.ref bw) := (((F208.keep Kc221 (ninS naw nin0)).other W230 (Or.inl nah)).other W239 (Or.inl nas))
      have F254 : Arv Z h239 bw kw .long (32 : Int32) ((.long x0) :: (.long x1) :: (.long y0) :: (.long y1) :: own_zl 28) (.long (0 : Int64)) := ((V221.other W230 nwh).other W239 nws)
      exact ⟨(1 : Int32), y0, y1, rfl, N239, K240, F252, F253, F254, (Or.inr ⟨rfl, (own_neT_2 hhs hsl h_hs2 h_t hb52_31), rfl, rfl⟩)⟩

theorem pn_3_b2 : plainName "com/example/grammar_game_solver/grammargamesolver/summary/NumberedSets" = true := by first | (simp [plainName, overriddenIn]; done) | decide +kernel
theorem pd3_b2_0 : parseMethodDescriptor "([JI)I" = some ⟨[(.array .long), .int], some .int⟩ := by decide +kernel
theorem ef_3_b2 (m : MethodId) (x0 : Addr) (x1 : Addr) : entryFrame m #[(.ref x0), (.ref x1)] 2 = mkF m 0 #[vr x0, vr x1] [] := by first | (simp [entryFrame, mkF, argsToLocals, Value.category]; done) | rfl
def Q3_b2 (Z : State) (a1 : Addr) (a2 : Addr) (bw : Addr) (bh : Addr) (bs : Addr) (kw : ClassId) (kh : ClassId) (ks : ClassId) (k2 : ClassId) (hs : Int32) (sl : Int32) (x0 : Int64) (x1 : Int64) (y0 : Int64) (y1 : Int64) (h0 : Heap) (n0 : Nat) (v : Option Value) (h : Heap) (L : List Loc) : Prop := ∃ n : Int32, ∃ w0 : Int64, ∃ w1 : Int64, v = some (.int n) ∧ Fr n0 L ∧ Keep h0 h [a1, bw, bh, bs] ∧ Fld Z h a1 c_0 "width" "I" (.int (2 : Int32)) ∧ Fld Z h a1 c_0 "words" "[J" (.ref bw) ∧ Arv Z h bw kw .long (32 : Int32) ((.long x0) :: (.long x1) :: (.long w0) :: (.long w1) :: own_zl 28) (.long (0 : Int64)) ∧ ((n = (0 : Int32) ∧ (x0 = y0 ∧ x1 = y1)) ∨ (n = (1 : Int32) ∧ ¬ (x0 = y0 ∧ x1 = y1) ∧ w0 = y0 ∧ w1 = y1))
set_option maxRecDepth 65536 in
set_option maxHeartbeats 40000000 in
theorem rm3_b2 (l : Launch) (Z : State) (a0 : Array Value) (hw : ∀ d ∈ tables_1, d.before a0 Z = true) (ws : List Jvm.Cond) (a1 : Addr) (a2 : Addr) (bw : Addr) (bh : Addr) (bs : Addr) (kw : ClassId) (kh : ClassId) (ks : ClassId) (k2 : ClassId) (hs : Int32) (sl : Int32) (x0 : Int64) (x1 : Int64) (y0 : Int64) (y1 : Int64) (h0 : Heap) (n0 : Nat) (Z0 : n0 ≤ h0.size) (E0 : Exa Z h0 a1 c_0) (Fwi : Fld Z h0 a1 c_0 "width" "I" (.int (2 : Int32))) (Fwo : Fld Z h0 a1 c_0 "words" "[J" (.ref bw)) (Fha : Fld Z h0 a1 c_0 "hashes" "[I" (.ref bh)) (Fsl : Fld Z h0 a1 c_0 "slots" "[I" (.ref bs)) (Fco : Fld Z h0 a1 c_0 "count" "I" (.int (1 : Int32))) (Vw : Arv Z h0 bw kw .long (32 : Int32) ((.long x0) :: (.long x1) :: own_zl 30) (.long (0 : Int64))) (Vh : Arv Z h0 bh kh .int (16 : Int32) ((.int hs) :: own_zi 15) (.int (0 : Int32))) (Vs : Arv Z h0 bs ks .int (32 : Int32) (own_sl sl) (.int (0 : Int32))) (V2 : Arv Z h0 a2 k2 .long (2 : Int32) [(.long y0), (.long y1)] (.long (0 : Int64))) (g1 : n0 ≤ a1) (gw : n0 ≤ bw) (gh : n0 ≤ bh) (gs : n0 ≤ bs) (naw : a1 ≠ bw) (nah : a1 ≠ bh) (nas : a1 ≠ bs) (n2w : a2 ≠ bw) (n2h : a2 ≠ bh) (n2s : a2 ≠ bs) (n12 : a1 ≠ a2) (nwh : bw ≠ bh) (nws : bw ≠ bs) (nhs : bh ≠ bs) (hhs : hs = (((31 : Int32) * ((31 : Int32) + (f5 x0))) + (f5 x1))) (hsl : sl = (f6 hs (31 : Int32))) :
    MetFree l y_4 (head1 (Jvm.Cond.code y_4 prog_63_method_4_code 2 (some .int) :: ws) ({ frames := 2, cells := 0, slots := 0, locals := 36 } : Room)) (fun a U => a = #[(.ref a1), (.ref a2)] ∧ Z.Warmed39 U.vm ∧ U.heap = h0) (fun _ _ _ _ _ => True) (fun _ U o U' => ∃ v L, o = .returned v ∧ Q3_b2 Z a1 a2 bw bh bs kw kh ks k2 hs sl x0 x1 y0 y1 h0 n0 v U'.heap L ∧ FrameEnd U o U' L ({ frames := 2, cells := 0, slots := 0, locals := 36 } : Room).cells ({ frames := 2, cells := 0, slots := 0, locals := 36 } : Room).slots) := by
  refine MetFree.of_bodySF (plainFor_of_name pn_3_b2) hisR ?_
  intro p e s m args below meth c s₁ Bd hml0 hP hK
  obtain ⟨rfl, hZ, hh⟩ := hP
  have hx := Bd.exec
  have hby := Bd.bytes
  have hml : c.maxLocals = 2 := hml0
  have hown : s.vm.findClass "com/example/grammar_game_solver/grammargamesolver/summary/NumberedSets" = some m.cls := findClass_of_methodNamed Bd.named
  have hnm := (name_of_methodNamed Bd.named Bd.method).1
  have X0 : Stand p l e ({ frames := 2, cells := 0, slots := 0, locals := 36 } : Room) s m #[(.ref a1), (.ref a2)] below meth c s₁ [] 0 0 := Stand.of_body Bd
  have e0 : s₁.heap = h0 := by rw [← hh, Bd.state]; rfl
  have N0 := Fr.nil n0
  have K0 : Keep h0 h0 [a1, bw, bh, bs] := Keep.refl h0 [a1, bw, bh, bs]
  obtain ⟨F0, hF0⟩ : ∃ F : JFrame, F = entryFrame m #[(.ref a1), (.ref a2)] 2 := ⟨_, rfl⟩
  have pre0 : ∀ t, Steps p.tables e below (s₁.setTop F0) t → Steps p.tables e below (s₁.setTop (entryFrame m #[(.ref a1), (.ref a2)] 2)) t := fun t k => hF0 ▸ k
  have go0 : Go p e below s₁ F0 s₁ (mkF m 0 #[vr a1, vr a2] []) := fun t k => castTop (hF0.trans (ef_3_b2 m a1 a2)) k
  have go1 : Go p e below s₁ F0 s₁ (mkF m 3 #[vr a1, vr a2] [(.int (0 : Int32)), (.ref a2), (.ref a1)]) := by
    intro t_ k_
    refine go0 t_ ?_
    refine o_aloadN X0 hx (hb hby d3_0) rfl rfl ?_
    refine o_aloadN X0 hx (hb hby d3_1) rfl rfl ?_
    refine o_iconst X0 hx (hb hby d3_2) (v := 0) rfl ?_
    exact k_
  obtain ⟨cq2, q2, q2'⟩ := E0.cell
  obtain ⟨_, _, ⟨T2, L2, k2, n2⟩, -, X2, ⟨Lc2, hQ2, l2, y2, z2⟩, st2⟩ := X0.privateBack hx (y := y_3) hown (mvT hZ (own_w hw 24 rfl)) (mvT hZ (own_w hw 25 rfl)) (own_selp (mvT hZ (own_w hw 1 rfl)) (mvP hZ (own_w hw 26 rfl)) (mvT hZ (own_w hw 25 rfl)) (by decide)) (Cond.privateMethod_at (mvP hZ (own_w hw 26 rfl) (args := #[]))) (mvT hZ (own_w hw 27 rfl)) (by decide) (backOf (W := 0) (rm4_b2 l Z a0 hw [] a1 a2 bw bh bs kw kh ks k2 hs sl x0 x1 y0 y1 h0 n0 Z0 E0 Fwi Fwo Fha Fsl Fco Vw Vh Vs V2 g1 gw gh gs naw nah nas n2w n2h n2s n12 nwh nws nhs hhs hsl) hZ (own_w hw 27 rfl) (own_w hw 2 rfl) (by decide) (by decide)) (g := (mkF m 3 #[vr a1, vr a2] [(.int (0 : Int32)), (.ref a2), (.ref a1)])) rfl (by rw [hml]; rfl) (Steps.refl _) (a := a1) (by rw [e0]; exact q2) q2' (argsL := [(.ref a2), (.int (0 : Int32))]) (rest := []) (lenOf pd3_b2_0 rfl) rfl (by show 2 * 0 + _ ≤ _; exact Nat.le_of_eq rfl) (hb hby d3_3) (fun _ _ => ⟨rfl, e0, (by decide : 0 + 0 ≤ _), (by decide : 0 + 0 ≤ _)⟩)
  dsimp only [Pt.U, Pt.locs, Pt.cells, Pt.slots] at X2 l2 y2 z2 st2 hQ2
  subst l2 y2 z2
  obtain ⟨n_2, w0_2, w1_2, rfl, Nq2, Kc2, Fwi_2, Fwo_2, Vw_2, hP_2⟩ := hQ2
  have N2 := Fr.app N0 Nq2
  have K3 : Keep h0 T2.heap [a1, bw, bh, bs] := K0.trans Kc2 (allS (Or.inl (List.mem_of_getElem? (i := 0) rfl)) (allS (Or.inl (List.mem_of_getElem? (i := 1) rfl)) (allS (Or.inl (List.mem_of_getElem? (i := 2) rfl)) (allS (Or.inl (List.mem_of_getElem? (i := 3) rfl)) all0))))
  have Z3 : n0 ≤ T2.heap.size := Nat.le_trans Z0 Kc2.1
  have go4 : Go p e below s₁ F0 T2 (mkF m 6 #[vr a1, vr a2] [(.int n_2)]) := fun t_ k_ => go1 t_ (st2.trans k_)
  obtain ⟨fs, hr, hrun, hended, hW, hsame⟩ := X2.leave (v := some (.int n_2)) (fun h => by rw [Bd.returns] at h; cases h)
  refine ⟨_, _, pre0 _ (go4 _ ?_), hrun, hended, _, _, rfl, ?_, ⟨_, rfl⟩, hW, hsame.mono (by decide) (by decide)⟩
  · skip
    exact retI X2 hx Bd.returns (hb hby d3_6) hr
  · show Q3_b2 Z a1 a2 bw bh bs kw kh ks k2 hs sl x0 x1 y0 y1 h0 n0 _ T2.heap _
    exact ⟨n_2, w0_2, w1_2, rfl, N2, K3, Fwi_2, Fwo_2, Vw_2, (by first | assumption | decide | omega)⟩

theorem d7_0 : decode prog_63_method_9_code 0 = .ok (.aload_n 0, 1) := by decide +kernel
theorem d7_1 : decode prog_63_method_9_code 1 = .ok (.getfield 13, 3) := by decide +kernel
theorem d7_4 : decode prog_63_method_9_code 4 = .ok (.iload_n 1, 1) := by decide +kernel
theorem d7_5 : decode prog_63_method_9_code 5 = .ok (.aload_n 0, 1) := by decide +kernel
theorem d7_6 : decode prog_63_method_9_code 6 = .ok (.getfield 7, 3) := by decide +kernel
theorem d7_9 : decode prog_63_method_9_code 9 = .ok (.imul, 1) := by decide +kernel
theorem d7_10 : decode prog_63_method_9_code 10 = .ok (.aload_n 2, 1) := by decide +kernel
theorem d7_11 : decode prog_63_method_9_code 11 = .ok (.iconst 0, 1) := by decide +kernel
theorem d7_12 : decode prog_63_method_9_code 12 = .ok (.aload_n 0, 1) := by decide +kernel
theorem d7_13 : decode prog_63_method_9_code 13 = .ok (.getfield 7, 3) := by decide +kernel
theorem d7_16 : decode prog_63_method_9_code 16 = .ok (.invokestatic 54, 3) := by decide +kernel
theorem d7_19 : decode prog_63_method_9_code 19 = .ok (.return_, 1) := by decide +kernel
theorem pn_7_0 : plainName "com/example/grammar_game_solver/grammargamesolver/summary/NumberedSets" = true := by first | (simp [plainName, overriddenIn]; done) | decide +kernel
theorem ef_7_0 (m : MethodId) (x0 : Addr) (x2 : Addr) : entryFrame m #[(.ref x0), (.int (0 : Int32)), (.ref x2)] 3 = mkF m 0 #[vr x0, vi (0 : Int32), vr x2] [] := by first | (simp [entryFrame, mkF, argsToLocals, Value.category]; done) | rfl
def Q7_0 (Z : State) (a1 : Addr) (a3 : Addr) (bw : Addr) (kw : ClassId) (k3 : ClassId) (w0 : Int64) (w1 : Int64) (w2 : Int64) (w3 : Int64) (f0 : Int64) (f1 : Int64) (f2 : Int64) (h0 : Heap) (n0 : Nat) (v : Option Value) (h : Heap) (L : List Loc) : Prop := v = none ∧ Fr n0 L ∧ Keep h0 h [a3] ∧ Arv Z h a3 k3 .long (3 : Int32) [(.long w0), (.long w1), (.long f2)] (.long (0 : Int64))
set_option maxRecDepth 65536 in
set_option maxHeartbeats 40000000 in
theorem rm7_0 (l : Launch) (Z : State) (a0 : Array Value) (hw : ∀ d ∈ tables_1, d.before a0 Z = true) (ws : List Jvm.Cond) (a1 : Addr) (a3 : Addr) (bw : Addr) (kw : ClassId) (k3 : ClassId) (w0 : Int64) (w1 : Int64) (w2 : Int64) (w3 : Int64) (f0 : Int64) (f1 : Int64) (f2 : Int64) (h0 : Heap) (n0 : Nat) (Z0 : n0 ≤ h0.size) (Fwi : Fld Z h0 a1 c_0 "width" "I" (.int (2 : Int32))) (Fwo : Fld Z h0 a1 c_0 "words" "[J" (.ref bw)) (Vw : Arv Z h0 bw kw .long (32 : Int32) ((.long w0) :: (.long w1) :: (.long w2) :: (.long w3) :: own_zl 28) (.long (0 : Int64))) (V3 : Arv Z h0 a3 k3 .long (3 : Int32) [(.long f0), (.long f1), (.long f2)] (.long (0 : Int64))) (g3 : n0 ≤ a3) :
    MetFree l y_6 (head1 (Jvm.Cond.code y_6 prog_63_method_9_code 3 none :: ws) ({ frames := 1, cells := 0, slots := 0, locals := 18 } : Room)) (fun a U => a = #[(.ref a1), (.int (0 : Int32)), (.ref a3)] ∧ Z.Warmed39 U.vm ∧ U.heap = h0) (fun _ _ _ _ _ => True) (fun _ U o U' => ∃ v L, o = .returned v ∧ Q7_0 Z a1 a3 bw kw k3 w0 w1 w2 w3 f0 f1 f2 h0 n0 v U'.heap L ∧ FrameEnd U o U' L ({ frames := 1, cells := 0, slots := 0, locals := 18 } : Room).cells ({ frames := 1, cells := 0, slots := 0, locals := 18 } : Room).slots) := by
  refine MetFree.of_bodySF (plainFor_of_name pn_7_0) hisR ?_
  intro p e s m args below meth c s₁ Bd hml0 hP hK
  obtain ⟨rfl, hZ, hh⟩ := hP
  have hx := Bd.exec
  have hby := Bd.bytes
  have hml : c.maxLocals = 3 := hml0
  have hown : s.vm.findClass "com/example/grammar_game_solver/grammargamesolver/summary/NumberedSets" = some m.cls := findClass_of_methodNamed Bd.named
  have hnm := (name_of_methodNamed Bd.named Bd.method).1
  have X0 : Stand p l e ({ frames := 1, cells := 0, slots := 0, locals := 18 } : Room) s m #[(.ref a1), (.int (0 : Int32)), (.ref a3)] below meth c s₁ [] 0 0 := Stand.of_body Bd
  have e0 : s₁.heap = h0 := by rw [← hh, Bd.state]; rfl
  have N0 := Fr.nil n0
  have K0 : Keep h0 h0 [a3] := Keep.refl h0 [a3]
  obtain ⟨F0, hF0⟩ : ∃ F : JFrame, F = entryFrame m #[(.ref a1), (.int (0 : Int32)), (.ref a3)] 3 := ⟨_, rfl⟩
  have pre0 : ∀ t, Steps p.tables e below (s₁.setTop F0) t → Steps p.tables e below (s₁.setTop (entryFrame m #[(.ref a1), (.int (0 : Int32)), (.ref a3)] 3)) t := fun t k => hF0 ▸ k
  have go0 : Go p e below s₁ F0 s₁ (mkF m 0 #[vr a1, vi (0 : Int32), vr a3] []) := fun t k => castTop (hF0.trans (ef_7_0 m a1 a3)) k
  have go1 : Go p e below s₁ F0 s₁ (mkF m 1 #[vr a1, vi (0 : Int32), vr a3] [(.ref a1)]) := by
    intro t_ k_
    refine go0 t_ ?_
    refine o_aloadN X0 hx (hb hby d7_0) rfl rfl ?_
    exact k_
  obtain ⟨T2, X2, e2, st2⟩ := getF X0 hx hZ hown (host := "") (Or.inl (own_w hw 12 rfl)) Via.refl e0 Fwo (g := (mkF m 1 #[vr a1, vi (0 : Int32), vr a3] [(.ref a1)])) rfl rfl (hb hby d7_1)
  have go3 : Go p e below s₁ F0 T2 (mkF m 4 #[vr a1, vi (0 : Int32), vr a3] [(.ref bw)]) := fun t_ k_ => go1 t_ (st2 t_ k_)
  have go4 : Go p e below s₁ F0 T2 (mkF m 6 #[vr a1, vi (0 : Int32), vr a3] [(.ref a1), (.int (0 : Int32)), (.ref bw)]) := by
    intro t_ k_
    refine go3 t_ ?_
    refine o_iloadN X2 hx (hb hby d7_4) rfl ?_
    refine o_aloadN X2 hx (hb hby d7_5) rfl rfl ?_
    exact k_
  obtain ⟨T5, X5, e5, st5⟩ := getF X2 hx hZ hown (host := "") (Or.inl (own_w hw 9 rfl)) Via.refl e2 Fwi (g := (mkF m 6 #[vr a1, vi (0 : Int32), vr a3] [(.ref a1), (.int (0 : Int32)), (.ref bw)])) rfl rfl (hb hby d7_6)
  have go6 : Go p e below s₁ F0 T5 (mkF m 9 #[vr a1, vi (0 : Int32), vr a3] [(.int (2 : Int32)), (.int (0 : Int32)), (.ref bw)]) := fun t_ k_ => go4 t_ (st5 t_ k_)
  have go7 : Go p e below s₁ F0 T5 (mkF m 13 #[vr a1, vi (0 : Int32), vr a3] [(.ref a1), (.int (0 : Int32)), (.ref a3), (.int (0 : Int32)), (.ref bw)]) := by
    intro t_ k_
    refine go6 t_ ?_
    refine o_imulE X5 hx (hb hby d7_9) (v := 0) rfl ?_
    refine o_aloadN X5 hx (hb hby d7_10) rfl rfl ?_
    refine o_iconst X5 hx (hb hby d7_11) (v := 0) rfl ?_
    refine o_aloadN X5 hx (hb hby d7_12) rfl rfl ?_
    exact k_
  obtain ⟨T8, X8, e8, st8⟩ := getF X5 hx hZ hown (host := "") (Or.inl (own_w hw 9 rfl)) Via.refl e5 Fwi (g := (mkF m 13 #[vr a1, vi (0 : Int32), vr a3] [(.ref a1), (.int (0 : Int32)), (.ref a3), (.int (0 : Int32)), (.ref bw)])) rfl rfl (hb hby d7_13)
  have go9 : Go p e below s₁ F0 T8 (mkF m 16 #[vr a1, vi (0 : Int32), vr a3] [(.int (2 : Int32)), (.int (0 : Int32)), (.ref a3), (.int (0 : Int32)), (.ref bw)]) := fun t_ k_ => go7 t_ (st8 t_ k_)
  obtain ⟨T10, h10, L10, X10, e10, N10, Kc10, Vc10, st10⟩ := cpA X8 hx hZ hown (own_w hw 38 rfl) (own_w hw 41 rfl) (own_w hw 39 rfl) (own_w hw 40 rfl) e8 Vw V3 (Or.inl ⟨rfl, rfl⟩) (by decide) (by decide) (by decide) (by decide) (by decide) (us := [(.long w0), (.long w1)]) rfl (Nat.le_of_ble_eq_true rfl) N0 g3 (g := (mkF m 16 #[vr a1, vi (0 : Int32), vr a3] [(.int (2 : Int32)), (.int (0 : Int32)), (.ref a3), (.int (0 : Int32)), (.ref bw)])) rfl (by rw [hml]; rfl) rfl (hb hby d7_16) (by decide) (W := 0) (by show 2 * 0 + _ ≤ _; exact Nat.le_of_eq rfl) (by decide)
  have V10 : Arv Z h10 a3 k3 .long (3 : Int32) [(.long w0), (.long w1), (.long f2)] (.long (0 : Int64)) := Vc10
  have K11 : Keep h0 h10 [a3] := K0.trans Kc10 (allS (Or.inl (List.mem_of_getElem? (i := 0) rfl)) all0)
  have Z11 : n0 ≤ h10.size := Nat.le_trans Z0 Kc10.1
  have go12 : Go p e below s₁ F0 T10 (mkF m 19 #[vr a1, vi (0 : Int32), vr a3] []) := fun t_ k_ => go9 t_ (st10 t_ k_)
  obtain ⟨fs, hr, hrun, hended, hW, hsame⟩ := X10.leave (v := none) (fun _ => rfl)
  refine ⟨_, _, pre0 _ (go12 _ ?_), hrun, hended, _, _, rfl, ?_, ⟨_, rfl⟩, hW, hsame.mono (by decide) (by decide)⟩
  · skip
    exact X10.returnOut hx Bd.returns (hb hby d7_19) hr
  · show Q7_0 Z a1 a3 bw kw k3 w0 w1 w2 w3 f0 f1 f2 h0 n0 _ T10.heap _
    rw [e10]
    exact ⟨rfl, N10, K11, V10⟩

theorem pn_7_1 : plainName "com/example/grammar_game_solver/grammargamesolver/summary/NumberedSets" = true := by first | (simp [plainName, overriddenIn]; done) | decide +kernel
theorem ef_7_1 (m : MethodId) (x0 : Addr) (x2 : Addr) : entryFrame m #[(.ref x0), (.int (1 : Int32)), (.ref x2)] 3 = mkF m 0 #[vr x0, vi (1 : Int32), vr x2] [] := by first | (simp [entryFrame, mkF, argsToLocals, Value.category]; done) | rfl
def Q7_1 (Z : State) (a1 : Addr) (a3 : Addr) (bw : Addr) (kw : ClassId) (k3 : ClassId) (w0 : Int64) (w1 : Int64) (w2 : Int64) (w3 : Int64) (f0 : Int64) (f1 : Int64) (f2 : Int64) (h0 : Heap) (n0 : Nat) (v : Option Value) (h : Heap) (L : List Loc) : Prop := v = none ∧ Fr n0 L ∧ Keep h0 h [a3] ∧ Arv Z h a3 k3 .long (3 : Int32) [(.long w2), (.long w3), (.long f2)] (.long (0 : Int64))
set_option maxRecDepth 65536 in
set_option maxHeartbeats 40000000 in
theorem rm7_1 (l : Launch) (Z : State) (a0 : Array Value) (hw : ∀ d ∈ tables_1, d.before a0 Z = true) (ws : List Jvm.Cond) (a1 : Addr) (a3 : Addr) (bw : Addr) (kw : ClassId) (k3 : ClassId) (w0 : Int64) (w1 : Int64) (w2 : Int64) (w3 : Int64) (f0 : Int64) (f1 : Int64) (f2 : Int64) (h0 : Heap) (n0 : Nat) (Z0 : n0 ≤ h0.size) (Fwi : Fld Z h0 a1 c_0 "width" "I" (.int (2 : Int32))) (Fwo : Fld Z h0 a1 c_0 "words" "[J" (.ref bw)) (Vw : Arv Z h0 bw kw .long (32 : Int32) ((.long w0) :: (.long w1) :: (.long w2) :: (.long w3) :: own_zl 28) (.long (0 : Int64))) (V3 : Arv Z h0 a3 k3 .long (3 : Int32) [(.long f0), (.long f1), (.long f2)] (.long (0 : Int64))) (g3 : n0 ≤ a3) :
    MetFree l y_6 (head1 (Jvm.Cond.code y_6 prog_63_method_9_code 3 none :: ws) ({ frames := 1, cells := 0, slots := 0, locals := 18 } : Room)) (fun a U => a = #[(.ref a1), (.int (1 : Int32)), (.ref a3)] ∧ Z.Warmed39 U.vm ∧ U.heap = h0) (fun _ _ _ _ _ => True) (fun _ U o U' => ∃ v L, o = .returned v ∧ Q7_1 Z a1 a3 bw kw k3 w0 w1 w2 w3 f0 f1 f2 h0 n0 v U'.heap L ∧ FrameEnd U o U' L ({ frames := 1, cells := 0, slots := 0, locals := 18 } : Room).cells ({ frames := 1, cells := 0, slots := 0, locals := 18 } : Room).slots) := by
  refine MetFree.of_bodySF (plainFor_of_name pn_7_1) hisR ?_
  intro p e s m args below meth c s₁ Bd hml0 hP hK
  obtain ⟨rfl, hZ, hh⟩ := hP
  have hx := Bd.exec
  have hby := Bd.bytes
  have hml : c.maxLocals = 3 := hml0
  have hown : s.vm.findClass "com/example/grammar_game_solver/grammargamesolver/summary/NumberedSets" = some m.cls := findClass_of_methodNamed Bd.named
  have hnm := (name_of_methodNamed Bd.named Bd.method).1
  have X0 : Stand p l e ({ frames := 1, cells := 0, slots := 0, locals := 18 } : Room) s m #[(.ref a1), (.int (1 : Int32)), (.ref a3)] below meth c s₁ [] 0 0 := Stand.of_body Bd
  have e0 : s₁.heap = h0 := by rw [← hh, Bd.state]; rfl
  have N0 := Fr.nil n0
  have K0 : Keep h0 h0 [a3] := Keep.refl h0 [a3]
  obtain ⟨F0, hF0⟩ : ∃ F : JFrame, F = entryFrame m #[(.ref a1), (.int (1 : Int32)), (.ref a3)] 3 := ⟨_, rfl⟩
  have pre0 : ∀ t, Steps p.tables e below (s₁.setTop F0) t → Steps p.tables e below (s₁.setTop (entryFrame m #[(.ref a1), (.int (1 : Int32)), (.ref a3)] 3)) t := fun t k => hF0 ▸ k
  have go0 : Go p e below s₁ F0 s₁ (mkF m 0 #[vr a1, vi (1 : Int32), vr a3] []) := fun t k => castTop (hF0.trans (ef_7_1 m a1 a3)) k
  have go1 : Go p e below s₁ F0 s₁ (mkF m 1 #[vr a1, vi (1 : Int32), vr a3] [(.ref a1)]) := by
    intro t_ k_
    refine go0 t_ ?_
    refine o_aloadN X0 hx (hb hby d7_0) rfl rfl ?_
    exact k_
  obtain ⟨T2, X2, e2, st2⟩ := getF X0 hx hZ hown (host := "") (Or.inl (own_w hw 12 rfl)) Via.refl e0 Fwo (g := (mkF m 1 #[vr a1, vi (1 : Int32), vr a3] [(.ref a1)])) rfl rfl (hb hby d7_1)
  have go3 : Go p e below s₁ F0 T2 (mkF m 4 #[vr a1, vi (1 : Int32), vr a3] [(.ref bw)]) := fun t_ k_ => go1 t_ (st2 t_ k_)
  have go4 : Go p e below s₁ F0 T2 (mkF m 6 #[vr a1, vi (1 : Int32), vr a3] [(.ref a1), (.int (1 : Int32)), (.ref bw)]) := by
    intro t_ k_
    refine go3 t_ ?_
    refine o_iloadN X2 hx (hb hby d7_4) rfl ?_
    refine o_aloadN X2 hx (hb hby d7_5) rfl rfl ?_
    exact k_
  obtain ⟨T5, X5, e5, st5⟩ := getF X2 hx hZ hown (host := "") (Or.inl (own_w hw 9 rfl)) Via.refl e2 Fwi (g := (mkF m 6 #[vr a1, vi (1 : Int32), vr a3] [(.ref a1), (.int (1 : Int32)), (.ref bw)])) rfl rfl (hb hby d7_6)
  have go6 : Go p e below s₁ F0 T5 (mkF m 9 #[vr a1, vi (1 : Int32), vr a3] [(.int (2 : Int32)), (.int (1 : Int32)), (.ref bw)]) := fun t_ k_ => go4 t_ (st5 t_ k_)
  have go7 : Go p e below s₁ F0 T5 (mkF m 13 #[vr a1, vi (1 : Int32), vr a3] [(.ref a1), (.int (0 : Int32)), (.ref a3), (.int (2 : Int32)), (.ref bw)]) := by
    intro t_ k_
    refine go6 t_ ?_
    refine o_imulE X5 hx (hb hby d7_9) (v := 2) rfl ?_
    refine o_aloadN X5 hx (hb hby d7_10) rfl rfl ?_
    refine o_iconst X5 hx (hb hby d7_11) (v := 0) rfl ?_
    refine o_aloadN X5 hx (hb hby d7_12) rfl rfl ?_
    exact k_
  obtain ⟨T8, X8, e8, st8⟩ := getF X5 hx hZ hown (host := "") (Or.inl (own_w hw 9 rfl)) Via.refl e5 Fwi (g := (mkF m 13 #[vr a1, vi (1 : Int32), vr a3] [(.ref a1), (.int (0 : Int32)), (.ref a3), (.int (2 : Int32)), (.ref bw)])) rfl rfl (hb hby d7_13)
  have go9 : Go p e below s₁ F0 T8 (mkF m 16 #[vr a1, vi (1 : Int32), vr a3] [(.int (2 : Int32)), (.int (0 : Int32)), (.ref a3), (.int (2 : Int32)), (.ref bw)]) := fun t_ k_ => go7 t_ (st8 t_ k_)
  obtain ⟨T10, h10, L10, X10, e10, N10, Kc10, Vc10, st10⟩ := cpA X8 hx hZ hown (own_w hw 38 rfl) (own_w hw 41 rfl) (own_w hw 39 rfl) (own_w hw 40 rfl) e8 Vw V3 (Or.inl ⟨rfl, rfl⟩) (by decide) (by decide) (by decide) (by decide) (by decide) (us := [(.long w2), (.long w3)]) rfl (Nat.le_of_ble_eq_true rfl) N0 g3 (g := (mkF m 16 #[vr a1, vi (1 : Int32), vr a3] [(.int (2 : Int32)), (.int (0 : Int32)), (.ref a3), (.int (2 : Int32)), (.ref bw)])) rfl (by rw [hml]; rfl) rfl (hb hby d7_16) (by decide) (W := 0) (by show 2 * 0 + _ ≤ _; exact Nat.le_of_eq rfl) (by decide)
  have V10 : Arv Z h10 a3 k3 .long (3 : Int32) [(.long w2), (.long w3), (.long f2)] (.long (0 : Int64)) := Vc10
  have K11 : Keep h0 h10 [a3] := K0.trans Kc10 (allS (Or.inl (List.mem_of_getElem? (i := 0) rfl)) all0)
  have Z11 : n0 ≤ h10.size := Nat.le_trans Z0 Kc10.1
  have go12 : Go p e below s₁ F0 T10 (mkF m 19 #[vr a1, vi (1 : Int32), vr a3] []) := fun t_ k_ => go9 t_ (st10 t_ k_)
  obtain ⟨fs, hr, hrun, hended, hW, hsame⟩ := X10.leave (v := none) (fun _ => rfl)
  refine ⟨_, _, pre0 _ (go12 _ ?_), hrun, hended, _, _, rfl, ?_, ⟨_, rfl⟩, hW, hsame.mono (by decide) (by decide)⟩
  · skip
    exact X10.returnOut hx Bd.returns (hb hby d7_19) hr
  · show Q7_1 Z a1 a3 bw kw k3 w0 w1 w2 w3 f0 f1 f2 h0 n0 _ T10.heap _
    rw [e10]
    exact ⟨rfl, N10, K11, V10⟩


theorem own_or {n : Int32} {P R : Prop} (h : (n = (0 : Int32) ∧ P) ∨ (n = (1 : Int32) ∧ R)) : n = (0 : Int32) ∨ n = (1 : Int32) := h.imp And.left And.left
theorem own_l {n : Int32} {P R : Prop} (h : (n = (0 : Int32) ∧ P) ∨ (n = (1 : Int32) ∧ R)) (e : n = (0 : Int32)) : P := by
  rcases h with h | h
  · exact h.2
  · exact absurd (e.symm.trans h.1) (by decide)
theorem own_r {n : Int32} {P R : Prop} (h : (n = (0 : Int32) ∧ P) ∨ (n = (1 : Int32) ∧ R)) (e : n = (1 : Int32)) : R := by
  rcases h with h | h
  · exact absurd (e.symm.trans h.1) (by decide)
  · exact h.2

theorem pn_0 : plainName "com/example/grammar_game_solver/grammargamesolver/summary/NumberedSetsCopyPinLaw" = true := by first | (simp [plainName, overriddenIn]; done) | decide +kernel
theorem pd0_0 : parseMethodDescriptor "(I)V" = some ⟨[.int], none⟩ := by decide +kernel
theorem pd0_1 : parseMethodDescriptor "([J)I" = some ⟨[(.array .long)], some .int⟩ := by decide +kernel
theorem pd0_2 : parseMethodDescriptor "(I[J)V" = some ⟨[.int, (.array .long)], none⟩ := by decide +kernel
theorem ef_0 (m : MethodId) (x0 : Int64) (x1 : Int64) (x2 : Int64) (x3 : Int64) (x4 : Int64) : entryFrame m #[(.long x0), (.long x1), (.long x2), (.long x3), (.long x4)] maxLocals = mkF m 0 #[vj x0, .second, vj x1, .second, vj x2, .second, vj x3, .second, vj x4, .second, .unset, .unset, .unset, .unset, .unset, .unset, .unset] [] := by first | (simp [entryFrame, mkF, argsToLocals, Value.category, maxLocals]; done) | rfl
def Q0 (Z : State) (q1 : Int64) (q2 : Int64) (q3 : Int64) (q4 : Int64) (q5 : Int64) (h0 : Heap) (n0 : Nat) (v : Option Value) (h : Heap) (L : List Loc) : Prop := v = some (.int (1 : Int32)) ∧ Fr n0 L
set_option maxRecDepth 65536 in
set_option maxHeartbeats 40000000 in
theorem rm0 (l : Launch) (Z : State) (a0 : Array Value) (hw : ∀ d ∈ tables_1, d.before a0 Z = true) (ws : List Jvm.Cond) (q1 : Int64) (q2 : Int64) (q3 : Int64) (q4 : Int64) (q5 : Int64) (h0 : Heap) (n0 : Nat) (Z0 : n0 ≤ h0.size) :
    MetFree l x (head1 (Jvm.Cond.code x code maxLocals ret :: ws) room_1) (fun a U => a = #[(.long q1), (.long q2), (.long q3), (.long q4), (.long q5)] ∧ Z.Warmed39 U.vm ∧ U.heap = h0) (fun _ _ _ _ _ => True) (fun _ U o U' => ∃ v L, o = .returned v ∧ Q0 Z q1 q2 q3 q4 q5 h0 n0 v U'.heap L ∧ FrameEnd U o U' L room_1.cells room_1.slots) := by
  refine MetFree.of_bodySF (plainFor_of_name pn_0) hisR ?_
  intro p e s m args below meth c s₁ Bd hml0 hP hK
  obtain ⟨rfl, hZ, hh⟩ := hP
  have hx := Bd.exec
  have hby := Bd.bytes
  have hml : c.maxLocals = 17 := hml0
  have hown : s.vm.findClass "com/example/grammar_game_solver/grammargamesolver/summary/NumberedSetsCopyPinLaw" = some m.cls := findClass_of_methodNamed Bd.named
  have hnm := (name_of_methodNamed Bd.named Bd.method).1
  have X0 : Stand p l e room_1 s m #[(.long q1), (.long q2), (.long q3), (.long q4), (.long q5)] below meth c s₁ [] 0 0 := Stand.of_body Bd
  have e0 : s₁.heap = h0 := by rw [← hh, Bd.state]; rfl
  have N0 := Fr.nil n0
  obtain ⟨F0, hF0⟩ : ∃ F : JFrame, F = entryFrame m #[(.long q1), (.long q2), (.long q3), (.long q4), (.long q5)] maxLocals := ⟨_, rfl⟩
  have pre0 : ∀ t, Steps p.tables e below (s₁.setTop F0) t → Steps p.tables e below (s₁.setTop (entryFrame m #[(.long q1), (.long q2), (.long q3), (.long q4), (.long q5)] maxLocals)) t := fun t k => hF0 ▸ k
  have go0 : Go p e below s₁ F0 s₁ (mkF m 0 #[vj q1, .second, vj q2, .second, vj q3, .second, vj q4, .second, vj q5, .second, .unset, .unset, .unset, .unset, .unset, .unset, .unset] []) := fun t k => castTop (hF0.trans (ef_0 m q1 q2 q3 q4 q5)) k
  obtain ⟨T1, h1, X1, e1, E1, A1, D1, -, st1⟩ := newO X0 hx hZ hown (own_w hw 0 rfl) (own_w hw 1 rfl) (own_w hw 2 rfl) e0 (g := (mkF m 0 #[vj q1, .second, vj q2, .second, vj q3, .second, vj q4, .second, vj q5, .second, .unset, .unset, .unset, .unset, .unset, .unset, .unset] [])) rfl (hb hby at_0) (by decide) (by decide)
  obtain ⟨b1, gz1⟩ : ∃ z, z = h0.size := ⟨_, rfl⟩
  rw [← gz1] at A1 D1 st1
  have g_b1 : n0 ≤ b1 := Nat.le_trans Z0 (Nat.le_of_eq gz1.symm)
  have Z2 : n0 ≤ h1.size := Nat.le_trans Z0 E1.1
  have F3 : Fld Z h1 b1 c_0 "width" "I" (.int (0 : Int32)) := D1 (Or.inr (own_w hw 10 rfl)) (ty := .int) (by decide)
  have F4 : Fld Z h1 b1 c_0 "words" "[J" .null := D1 (Or.inl (own_w hw 13 rfl)) (ty := (.array .long)) (by decide)
  have F5 : Fld Z h1 b1 c_0 "hashes" "[I" .null := D1 (Or.inl (own_w hw 16 rfl)) (ty := (.array .int)) (by decide)
  have F6 : Fld Z h1 b1 c_0 "slots" "[I" .null := D1 (Or.inl (own_w hw 18 rfl)) (ty := (.array .int)) (by decide)
  have F7 : Fld Z h1 b1 c_0 "count" "I" (.int (0 : Int32)) := D1 (Or.inl (own_w hw 37 rfl)) (ty := .int) (by decide)
  have go8 : Go p e below s₁ F0 T1 (mkF m 3 #[vj q1, .second, vj q2, .second, vj q3, .second, vj q4, .second, vj q5, .second, .unset, .unset, .unset, .unset, .unset, .unset, .unset] [(.ref b1)]) := fun t_ k_ => go0 t_ (st1 t_ k_)
  have go9 : Go p e below s₁ F0 T1 (mkF m 5 #[vj q1, .second, vj q2, .second, vj q3, .second, vj q4, .second, vj q5, .second, .unset, .unset, .unset, .unset, .unset, .unset, .unset] [(.int (2 : Int32)), (.ref b1), (.ref b1)]) := by
    intro t_ k_
    refine go8 t_ ?_
    refine o_dup X1 hx (hb hby at_3) rfl ?_
    refine o_iconst X1 hx (hb hby at_4) (v := 2) rfl ?_
    exact k_
  obtain ⟨_, _, ⟨T10, L10, k10, n10⟩, -, X10, ⟨Lc10, hQ10, l10, y10, z10⟩, st10⟩ := X1.specialBack hx (y := y_2) rfl hown (mvT hZ (own_w hw 3 rfl)) (mvT hZ (own_w hw 4 rfl)) (mvT hZ (own_w hw 5 rfl)) (by decide) (backOf (W := 1) (rm1_w2 l Z a0 hw [] b1 h1 n0 Z2 A1 F3 F4 F5 F6 F7 g_b1) hZ (own_w hw 5 rfl) (own_w hw 2 rfl) (by decide) (by decide)) (g := (mkF m 5 #[vj q1, .second, vj q2, .second, vj q3, .second, vj q4, .second, vj q5, .second, .unset, .unset, .unset, .unset, .unset, .unset, .unset] [(.int (2 : Int32)), (.ref b1), (.ref b1)])) rfl (by rw [hml]; rfl) (Steps.refl _) (a := b1) (argsL := [(.int (2 : Int32))]) (rest := [(.ref b1)]) (lenOf pd0_0 rfl) rfl (by show 2 * 0 + _ ≤ _; exact Nat.le_of_eq rfl) (hb hby at_5) (fun _ _ => ⟨rfl, e1, (by decide : 1 + 3 ≤ _), (by decide : 5 + 80 ≤ _)⟩)
  dsimp only [Pt.U, Pt.locs, Pt.cells, Pt.slots] at X10 l10 y10 z10 st10 hQ10
  subst l10 y10 z10
  obtain ⟨bw_10, bh_10, bs_10, kw_10, kh_10, ks_10, rfl, Nq10, Kc10, hbw_10, hbh_10, hbs_10, nwh_10, nws_10, nhs_10, Fwi_10, Fwo_10, Fha_10, Fsl_10, Fco_10, Vw_10, Vh_10, Vs_10⟩ := hQ10
  have N10 := Fr.app N0 Nq10
  have ne11 : b1 ≠ bw_10 := Nat.ne_of_lt (Nat.lt_of_lt_of_le A1.lt hbw_10)
  have g_bw_10 : n0 ≤ bw_10 := Nat.le_trans Z2 hbw_10
  have ne12 : b1 ≠ bh_10 := Nat.ne_of_lt (Nat.lt_of_lt_of_le A1.lt hbh_10)
  have g_bh_10 : n0 ≤ bh_10 := Nat.le_trans Z2 hbh_10
  have ne13 : b1 ≠ bs_10 := Nat.ne_of_lt (Nat.lt_of_lt_of_le A1.lt hbs_10)
  have g_bs_10 : n0 ≤ bs_10 := Nat.le_trans Z2 hbs_10
  have Z14 : n0 ≤ T10.heap.size := Nat.le_trans Z2 Kc10.1
  have go15 : Go p e below s₁ F0 T10 (mkF m 8 #[vj q1, .second, vj q2, .second, vj q3, .second, vj q4, .second, vj q5, .second, .unset, .unset, .unset, .unset, .unset, .unset, .unset] [(.ref b1)]) := fun t_ k_ => go9 t_ (st10.trans k_)
  have go16 : Go p e below s₁ F0 T10 (mkF m 11 #[vj q1, .second, vj q2, .second, vj q3, .second, vj q4, .second, vj q5, .second, vr b1, .unset, .unset, .unset, .unset, .unset, .unset] [(.int (2 : Int32))]) := by
    intro t_ k_
    refine go15 t_ ?_
    refine o_astore X10 hx (hb hby at_8) rfl (L' := #[vj q1, .second, vj q2, .second, vj q3, .second, vj q4, .second, vj q5, .second, vr b1, .unset, .unset, .unset, .unset, .unset, .unset]) rfl ?_
    refine o_iconst X10 hx (hb hby at_10) (v := 2) rfl ?_
    exact k_
  obtain ⟨T17, h17, k17, X17, e17, E17, A17, st17⟩ := newP X10 hx hZ (own_w hw 11 rfl) rfl (g := (mkF m 11 #[vj q1, .second, vj q2, .second, vj q3, .second, vj q4, .second, vj q5, .second, vr b1, .unset, .unset, .unset, .unset, .unset, .unset] [(.int (2 : Int32))])) rfl (hb hby at_11) rfl (by decide) (cap := 2) (by decide) (by decide) (by decide) (by decide)
  obtain ⟨b17, gz17⟩ : ∃ z, z = T10.heap.size := ⟨_, rfl⟩
  rw [← gz17] at A17 st17
  have F18 : Exa Z T10.heap b1 c_0 := (A1.keep Kc10)
  have ne19 : b1 ≠ b17 := Nat.ne_of_lt (Nat.lt_of_lt_of_le F18.lt (Nat.le_of_eq gz17.symm))
  have ne20 : bw_10 ≠ b17 := Nat.ne_of_lt (Nat.lt_of_lt_of_le Vw_10.lt (Nat.le_of_eq gz17.symm))
  have ne21 : bh_10 ≠ b17 := Nat.ne_of_lt (Nat.lt_of_lt_of_le Vh_10.lt (Nat.le_of_eq gz17.symm))
  have ne22 : bs_10 ≠ b17 := Nat.ne_of_lt (Nat.lt_of_lt_of_le Vs_10.lt (Nat.le_of_eq gz17.symm))
  have g_b17 : n0 ≤ b17 := Nat.le_trans Z14 (Nat.le_of_eq gz17.symm)
  have Z23 : n0 ≤ h17.size := Nat.le_trans Z14 E17.1
  have V17 : Arv Z h17 b17 k17 .long (2 : Int32) [(.long (0 : Int64)), (.long (0 : Int64))] (.long (0 : Int64)) := (Arv.new A17 (by decide)).pad (pad_rep [] (.long (0 : Int64)) 2)
  have go24 : Go p e below s₁ F0 T17 (mkF m 13 #[vj q1, .second, vj q2, .second, vj q3, .second, vj q4, .second, vj q5, .second, vr b1, .unset, .unset, .unset, .unset, .unset, .unset] [(.ref b17)]) := fun t_ k_ => go16 t_ (st17 t_ k_)
  have go25 : Go p e below s₁ F0 T17 (mkF m 16 #[vj q1, .second, vj q2, .second, vj q3, .second, vj q4, .second, vj q5, .second, vr b1, .unset, .unset, .unset, .unset, .unset, .unset] [(.long q1), (.int (0 : Int32)), (.ref b17), (.ref b17)]) := by
    intro t_ k_
    refine go24 t_ ?_
    refine o_dup X17 hx (hb hby at_13) rfl ?_
    refine o_iconst X17 hx (hb hby at_14) (v := 0) rfl ?_
    refine o_lloadN X17 hx (hb hby at_15) rfl ?_
    exact k_
  obtain ⟨cl26, Ar26, q26, Sz26, Nn26, Hs26, G26⟩ := id V17
  have hin26 : ¬ ((0 : Int32) < 0 ∨ cl26.slots.size ≤ ((0 : Int32)).toNatClampNeg) := inb_of Sz26 ⟨by decide, by decide⟩
  obtain ⟨T26, h26, X26, e26, W26, st26⟩ := stJ X17 hx hZ e17 Ar26 (j := (0 : Int32)) hin26 (g := (mkF m 16 #[vj q1, .second, vj q2, .second, vj q3, .second, vj q4, .second, vj q5, .second, vr b1, .unset, .unset, .unset, .unset, .unset, .unset] [(.long q1), (.int (0 : Int32)), (.ref b17), (.ref b17)])) rfl rfl (hb hby at_16)
  have V26 : Arv Z h26 b17 k17 .long (2 : Int32) [(.long q1), (.long (0 : Int64))] (.long (0 : Int64)) := Arv.set Ar26 q26 Sz26 Nn26 Hs26 G26 rfl W26 0 rfl (Nat.le_of_ble_eq_true rfl)
  have Z27 : n0 ≤ h26.size := Nat.le_trans Z23 (Keep.of_wr W26).1
  have N26 := Fr.snoc X26 N10 g_b17
  have go28 : Go p e below s₁ F0 T26 (mkF m 17 #[vj q1, .second, vj q2, .second, vj q3, .second, vj q4, .second, vj q5, .second, vr b1, .unset, .unset, .unset, .unset, .unset, .unset] [(.ref b17)]) := fun t_ k_ => go25 t_ (st26 t_ k_)
  have go29 : Go p e below s₁ F0 T26 (mkF m 20 #[vj q1, .second, vj q2, .second, vj q3, .second, vj q4, .second, vj q5, .second, vr b1, .unset, .unset, .unset, .unset, .unset, .unset] [(.long q2), (.int (1 : Int32)), (.ref b17), (.ref b17)]) := by
    intro t_ k_
    refine go28 t_ ?_
    refine o_dup X26 hx (hb hby at_17) rfl ?_
    refine o_iconst X26 hx (hb hby at_18) (v := 1) rfl ?_
    refine o_lloadN X26 hx (hb hby at_19) rfl ?_
    exact k_
  obtain ⟨cl30, Ar30, q30, Sz30, Nn30, Hs30, G30⟩ := id V26
  have hin30 : ¬ ((1 : Int32) < 0 ∨ cl30.slots.size ≤ ((1 : Int32)).toNatClampNeg) := inb_of Sz30 ⟨by decide, by decide⟩
  obtain ⟨T30, h30, X30, e30, W30, st30⟩ := stJ X26 hx hZ e26 Ar30 (j := (1 : Int32)) hin30 (g := (mkF m 20 #[vj q1, .second, vj q2, .second, vj q3, .second, vj q4, .second, vj q5, .second, vr b1, .unset, .unset, .unset, .unset, .unset, .unset] [(.long q2), (.int (1 : Int32)), (.ref b17), (.ref b17)])) rfl rfl (hb hby at_20)
  have V30 : Arv Z h30 b17 k17 .long (2 : Int32) [(.long q1), (.long q2)] (.long (0 : Int64)) := Arv.set Ar30 q30 Sz30 Nn30 Hs30 G30 rfl W30 1 rfl (Nat.le_of_ble_eq_true rfl)
  have Z31 : n0 ≤ h30.size := Nat.le_trans Z27 (Keep.of_wr W30).1
  have N30 := Fr.snoc X30 N26 g_b17
  have go32 : Go p e below s₁ F0 T30 (mkF m 21 #[vj q1, .second, vj q2, .second, vj q3, .second, vj q4, .second, vj q5, .second, vr b1, .unset, .unset, .unset, .unset, .unset, .unset] [(.ref b17)]) := fun t_ k_ => go29 t_ (st30 t_ k_)
  have go33 : Go p e below s₁ F0 T30 (mkF m 24 #[vj q1, .second, vj q2, .second, vj q3, .second, vj q4, .second, vj q5, .second, vr b1, vr b17, .unset, .unset, .unset, .unset, .unset] [(.int (2 : Int32))]) := by
    intro t_ k_
    refine go32 t_ ?_
    refine o_astore X30 hx (hb hby at_21) rfl (L' := #[vj q1, .second, vj q2, .second, vj q3, .second, vj q4, .second, vj q5, .second, vr b1, vr b17, .unset, .unset, .unset, .unset, .unset]) rfl ?_
    refine o_iconst X30 hx (hb hby at_23) (v := 2) rfl ?_
    exact k_
  obtain ⟨T34, h34, k34, X34, e34, E34, A34, st34⟩ := newP X30 hx hZ (own_w hw 11 rfl) e30 (g := (mkF m 24 #[vj q1, .second, vj q2, .second, vj q3, .second, vj q4, .second, vj q5, .second, vr b1, vr b17, .unset, .unset, .unset, .unset, .unset] [(.int (2 : Int32))])) rfl (hb hby at_24) rfl (by decide) (cap := 2) (by decide) (by decide) (by decide) (by decide)
  obtain ⟨b34, gz34⟩ : ∃ z, z = h30.size := ⟨_, rfl⟩
  rw [← gz34] at A34 st34
  have F35 : Exa Z h30 b1 c_0 := (((F18.ext E17).wr W26).wr W30)
  have ne36 : b1 ≠ b34 := Nat.ne_of_lt (Nat.lt_of_lt_of_le F35.lt (Nat.le_of_eq gz34.symm))
  have F37 : Arv Z h30 bw_10 kw_10 .long (32 : Int32) (own_zl 32) (.long (0 : Int64)) := (((Vw_10.ext E17).other W26 ne20).other W30 ne20)
  have ne38 : bw_10 ≠ b34 := Nat.ne_of_lt (Nat.lt_of_lt_of_le F37.lt (Nat.le_of_eq gz34.symm))
  have F39 : Arv Z h30 bh_10 kh_10 .int (16 : Int32) (own_zi 16) (.int (0 : Int32)) := (((Vh_10.ext E17).other W26 ne21).other W30 ne21)
  have ne40 : bh_10 ≠ b34 := Nat.ne_of_lt (Nat.lt_of_lt_of_le F39.lt (Nat.le_of_eq gz34.symm))
  have F41 : Arv Z h30 bs_10 ks_10 .int (32 : Int32) (own_zi 32) (.int (0 : Int32)) := (((Vs_10.ext E17).other W26 ne22).other W30 ne22)
  have ne42 : bs_10 ≠ b34 := Nat.ne_of_lt (Nat.lt_of_lt_of_le F41.lt (Nat.le_of_eq gz34.symm))
  have ne43 : b17 ≠ b34 := Nat.ne_of_lt (Nat.lt_of_lt_of_le V30.lt (Nat.le_of_eq gz34.symm))
  have g_b34 : n0 ≤ b34 := Nat.le_trans Z31 (Nat.le_of_eq gz34.symm)
  have Z44 : n0 ≤ h34.size := Nat.le_trans Z31 E34.1
  have V34 : Arv Z h34 b34 k34 .long (2 : Int32) [(.long (0 : Int64)), (.long (0 : Int64))] (.long (0 : Int64)) := (Arv.new A34 (by decide)).pad (pad_rep [] (.long (0 : Int64)) 2)
  have go45 : Go p e below s₁ F0 T34 (mkF m 26 #[vj q1, .second, vj q2, .second, vj q3, .second, vj q4, .second, vj q5, .second, vr b1, vr b17, .unset, .unset, .unset, .unset, .unset] [(.ref b34)]) := fun t_ k_ => go33 t_ (st34 t_ k_)
  have go46 : Go p e below s₁ F0 T34 (mkF m 30 #[vj q1, .second, vj q2, .second, vj q3, .second, vj q4, .second, vj q5, .second, vr b1, vr b17, .unset, .unset, .unset, .unset, .unset] [(.long q3), (.int (0 : Int32)), (.ref b34), (.ref b34)]) := by
    intro t_ k_
    refine go45 t_ ?_
    refine o_dup X34 hx (hb hby at_26) rfl ?_
    refine o_iconst X34 hx (hb hby at_27) (v := 0) rfl ?_
    refine o_lload X34 hx (hb hby at_28) rfl ?_
    exact k_
  obtain ⟨cl47, Ar47, q47, Sz47, Nn47, Hs47, G47⟩ := id V34
  have hin47 : ¬ ((0 : Int32) < 0 ∨ cl47.slots.size ≤ ((0 : Int32)).toNatClampNeg) := inb_of Sz47 ⟨by decide, by decide⟩
  obtain ⟨T47, h47, X47, e47, W47, st47⟩ := stJ X34 hx hZ e34 Ar47 (j := (0 : Int32)) hin47 (g := (mkF m 30 #[vj q1, .second, vj q2, .second, vj q3, .second, vj q4, .second, vj q5, .second, vr b1, vr b17, .unset, .unset, .unset, .unset, .unset] [(.long q3), (.int (0 : Int32)), (.ref b34), (.ref b34)])) rfl rfl (hb hby at_30)
  have V47 : Arv Z h47 b34 k34 .long (2 : Int32) [(.long q3), (.long (0 : Int64))] (.long (0 : Int64)) := Arv.set Ar47 q47 Sz47 Nn47 Hs47 G47 rfl W47 0 rfl (Nat.le_of_ble_eq_true rfl)
  have Z48 : n0 ≤ h47.size := Nat.le_trans Z44 (Keep.of_wr W47).1
  have N47 := Fr.snoc X47 N30 g_b34
  have go49 : Go p e below s₁ F0 T47 (mkF m 31 #[vj q1, .second, vj q2, .second, vj q3, .second, vj q4, .second, vj q5, .second, vr b1, vr b17, .unset, .unset, .unset, .unset, .unset] [(.ref b34)]) := fun t_ k_ => go46 t_ (st47 t_ k_)
  have go50 : Go p e below s₁ F0 T47 (mkF m 35 #[vj q1, .second, vj q2, .second, vj q3, .second, vj q4, .second, vj q5, .second, vr b1, vr b17, .unset, .unset, .unset, .unset, .unset] [(.long q4), (.int (1 : Int32)), (.ref b34), (.ref b34)]) := by
    intro t_ k_
    refine go49 t_ ?_
    refine o_dup X47 hx (hb hby at_31) rfl ?_
    refine o_iconst X47 hx (hb hby at_32) (v := 1) rfl ?_
    refine o_lload X47 hx (hb hby at_33) rfl ?_
    exact k_
  obtain ⟨cl51, Ar51, q51, Sz51, Nn51, Hs51, G51⟩ := id V47
  have hin51 : ¬ ((1 : Int32) < 0 ∨ cl51.slots.size ≤ ((1 : Int32)).toNatClampNeg) := inb_of Sz51 ⟨by decide, by decide⟩
  obtain ⟨T51, h51, X51, e51, W51, st51⟩ := stJ X47 hx hZ e47 Ar51 (j := (1 : Int32)) hin51 (g := (mkF m 35 #[vj q1, .second, vj q2, .second, vj q3, .second, vj q4, .second, vj q5, .second, vr b1, vr b17, .unset, .unset, .unset, .unset, .unset] [(.long q4), (.int (1 : Int32)), (.ref b34), (.ref b34)])) rfl rfl (hb hby at_35)
  have V51 : Arv Z h51 b34 k34 .long (2 : Int32) [(.long q3), (.long q4)] (.long (0 : Int64)) := Arv.set Ar51 q51 Sz51 Nn51 Hs51 G51 rfl W51 1 rfl (Nat.le_of_ble_eq_true rfl)
  have Z52 : n0 ≤ h51.size := Nat.le_trans Z48 (Keep.of_wr W51).1
  have N51 := Fr.snoc X51 N47 g_b34
  have go53 : Go p e below s₁ F0 T51 (mkF m 36 #[vj q1, .second, vj q2, .second, vj q3, .second, vj q4, .second, vj q5, .second, vr b1, vr b17, .unset, .unset, .unset, .unset, .unset] [(.ref b34)]) := fun t_ k_ => go50 t_ (st51 t_ k_)
  have F54 : Exa Z h51 b1 c_0 := (((F35.ext E34).wr W47).wr W51)
  have F55 : Fld Z h51 b1 c_0 "width" "I" (.int (2 : Int32)) := ((((((Fwi_10.ext E17).other W26 (Or.inl ne19)).other W30 (Or.inl ne19)).ext E34).other W47 (Or.inl ne36)).other W51 (Or.inl ne36))
  have F56 : Fld Z h51 b1 c_0 "words" "[J" (.ref bw_10) := ((((((Fwo_10.ext E17).other W26 (Or.inl ne19)).other W30 (Or.inl ne19)).ext E34).other W47 (Or.inl ne36)).other W51 (Or.inl ne36))
  have F57 : Fld Z h51 b1 c_0 "hashes" "[I" (.ref bh_10) := ((((((Fha_10.ext E17).other W26 (Or.inl ne19)).other W30 (Or.inl ne19)).ext E34).other W47 (Or.inl ne36)).other W51 (Or.inl ne36))
  have F58 : Fld Z h51 b1 c_0 "slots" "[I" (.ref bs_10) := ((((((Fsl_10.ext E17).other W26 (Or.inl ne19)).other W30 (Or.inl ne19)).ext E34).other W47 (Or.inl ne36)).other W51 (Or.inl ne36))
  have F59 : Fld Z h51 b1 c_0 "count" "I" (.int (0 : Int32)) := ((((((Fco_10.ext E17).other W26 (Or.inl ne19)).other W30 (Or.inl ne19)).ext E34).other W47 (Or.inl ne36)).other W51 (Or.inl ne36))
  have F60 : Arv Z h51 bw_10 kw_10 .long (32 : Int32) (own_zl 32) (.long (0 : Int64)) := (((F37.ext E34).other W47 ne38).other W51 ne38)
  have F61 : Arv Z h51 bh_10 kh_10 .int (16 : Int32) (own_zi 16) (.int (0 : Int32)) := (((F39.ext E34).other W47 ne40).other W51 ne40)
  have F62 : Arv Z h51 bs_10 ks_10 .int (32 : Int32) (own_zi 32) (.int (0 : Int32)) := (((F41.ext E34).other W47 ne42).other W51 ne42)
  have F63 : Arv Z h51 b17 k17 .long (2 : Int32) [(.long q1), (.long q2)] (.long (0 : Int64)) := (((V30.ext E34).other W47 ne43).other W51 ne43)
  have go64 : Go p e below s₁ F0 T51 (mkF m 42 #[vj q1, .second, vj q2, .second, vj q3, .second, vj q4, .second, vj q5, .second, vr b1, vr b17, vr b34, .unset, .unset, .unset, .unset] [(.ref b17), (.ref b1)]) := by
    intro t_ k_
    refine go53 t_ ?_
    refine o_astore X51 hx (hb hby at_36) rfl (L' := #[vj q1, .second, vj q2, .second, vj q3, .second, vj q4, .second, vj q5, .second, vr b1, vr b17, vr b34, .unset, .unset, .unset, .unset]) rfl ?_
    refine o_aload X51 hx (hb hby at_38) rfl rfl ?_
    refine o_aload X51 hx (hb hby at_40) rfl rfl ?_
    exact k_
  obtain ⟨cq65, kq65, q65a, q65b, q65c⟩ := isOf hZ e51 F54
  obtain ⟨_, _, ⟨T65, L65, k65, n65⟩, -, X65, ⟨Lc65, hQ65, l65, y65, z65⟩, st65⟩ := X51.virtualBack hx (y := y_4) (z := y_4) hown (mvT hZ (own_w hw 19 rfl)) (mvT hZ (own_w hw 20 rfl)) (notFace_of_selects (args := #[]) (mvT hZ (own_w hw 22 rfl))) (mvT hZ (own_w hw 22 rfl)) (mvT hZ (own_w hw 21 rfl)) (by decide) (backOf (W := 0) (rm3_a2 l Z a0 hw [] b1 b17 bw_10 bh_10 bs_10 kw_10 kh_10 ks_10 k17 q1 q2 h51 n0 Z52 F54 F55 F56 F57 F58 F59 F60 F61 F62 F63 g_b1 g_bw_10 g_bh_10 g_bs_10 ne11 ne12 ne13 (Ne.symm ne20) (Ne.symm ne21) (Ne.symm ne22) ne19 nwh_10 nws_10 nhs_10) hZ (own_w hw 23 rfl) (own_w hw 2 rfl) (by decide) (by decide)) q65a q65c (g := (mkF m 42 #[vj q1, .second, vj q2, .second, vj q3, .second, vj q4, .second, vj q5, .second, vr b1, vr b17, vr b34, .unset, .unset, .unset, .unset] [(.ref b17), (.ref b1)])) rfl (by rw [hml]; rfl) (Steps.refl _) (argsL := [(.ref b17)]) (rest := []) (lenOf pd0_1 rfl) rfl (by show 2 * 0 + _ ≤ _; exact Nat.le_of_eq rfl) (hb hby at_42) (fun _ _ => ⟨rfl, e51, (by decide : 6 + 0 ≤ _), (by decide : 89 + 0 ≤ _)⟩)
  dsimp only [Pt.U, Pt.locs, Pt.cells, Pt.slots] at X65 l65 y65 z65 st65 hQ65
  subst l65 y65 z65
  obtain ⟨hs_65, sl_65, rfl, Nq65, Kc65, Fwi_65, Fwo_65, Fha_65, Fsl_65, Fco_65, Vw_65, Vh_65, Vs_65, hhs_65, hsl_65⟩ := hQ65
  have N65 := Fr.app N51 Nq65
  have Z66 : n0 ≤ T65.heap.size := Nat.le_trans Z52 Kc65.1
  have go67 : Go p e below s₁ F0 T65 (mkF m 45 #[vj q1, .second, vj q2, .second, vj q3, .second, vj q4, .second, vj q5, .second, vr b1, vr b17, vr b34, .unset, .unset, .unset, .unset] [(.int (0 : Int32))]) := fun t_ k_ => go64 t_ (st65.trans k_)
  have F68 : Exa Z T65.heap b1 c_0 := (F54.keep Kc65)
  have F69 : Arv Z T65.heap b34 k34 .long (2 : Int32) [(.long q3), (.long q4)] (.long (0 : Int64)) := (V51.keep Kc65 (ninS (Ne.symm ne36) (ninS (Ne.symm ne38) (ninS (Ne.symm ne40) (ninS (Ne.symm ne42) nin0)))))
  have go70 : Go p e below s₁ F0 T65 (mkF m 51 #[vj q1, .second, vj q2, .second, vj q3, .second, vj q4, .second, vj q5, .second, vr b1, vr b17, vr b34, vi (0 : Int32), .unset, .unset, .unset] [(.ref b34), (.ref b1)]) := by
    intro t_ k_
    refine go67 t_ ?_
    refine o_istore X65 hx (hb hby at_45) (L' := #[vj q1, .second, vj q2, .second, vj q3, .second, vj q4, .second, vj q5, .second, vr b1, vr b17, vr b34, vi (0 : Int32), .unset, .unset, .unset]) rfl ?_
    refine o_aload X65 hx (hb hby at_47) rfl rfl ?_
    refine o_aload X65 hx (hb hby at_49) rfl rfl ?_
    exact k_
  obtain ⟨cq71, kq71, q71a, q71b, q71c⟩ := isOf hZ rfl F68
  obtain ⟨_, _, ⟨T71, L71, k71, n71⟩, -, X71, ⟨Lc71, hQ71, l71, y71, z71⟩, st71⟩ := X65.virtualBack hx (y := y_4) (z := y_4) hown (mvT hZ (own_w hw 19 rfl)) (mvT hZ (own_w hw 20 rfl)) (notFace_of_selects (args := #[]) (mvT hZ (own_w hw 22 rfl))) (mvT hZ (own_w hw 22 rfl)) (mvT hZ (own_w hw 21 rfl)) (by decide) (backOf (W := 0) (rm3_b2 l Z a0 hw [] b1 b34 bw_10 bh_10 bs_10 kw_10 kh_10 ks_10 k34 hs_65 sl_65 q1 q2 q3 q4 (T65.heap) n0 Z66 F68 Fwi_65 Fwo_65 Fha_65 Fsl_65 Fco_65 Vw_65 Vh_65 Vs_65 F69 g_b1 g_bw_10 g_bh_10 g_bs_10 ne11 ne12 ne13 (Ne.symm ne38) (Ne.symm ne40) (Ne.symm ne42) ne36 nwh_10 nws_10 nhs_10 hhs_65 hsl_65) hZ (own_w hw 23 rfl) (own_w hw 2 rfl) (by decide) (by decide)) q71a q71c (g := (mkF m 51 #[vj q1, .second, vj q2, .second, vj q3, .second, vj q4, .second, vj q5, .second, vr b1, vr b17, vr b34, vi (0 : Int32), .unset, .unset, .unset] [(.ref b34), (.ref b1)])) rfl (by rw [hml]; rfl) (Steps.refl _) (argsL := [(.ref b34)]) (rest := []) (lenOf pd0_1 rfl) rfl (by show 2 * 0 + _ ≤ _; exact Nat.le_of_eq rfl) (hb hby at_51) (fun _ _ => ⟨rfl, rfl, (by decide : 6 + 0 ≤ _), (by decide : 89 + 0 ≤ _)⟩)
  dsimp only [Pt.U, Pt.locs, Pt.cells, Pt.slots] at X71 l71 y71 z71 st71 hQ71
  subst l71 y71 z71
  obtain ⟨n_71, w0_71, w1_71, rfl, Nq71, Kc71, Fwi_71, Fwo_71, Vw_71, hP_71⟩ := hQ71
  have N71 := Fr.app N65 Nq71
  have Z72 : n0 ≤ T71.heap.size := Nat.le_trans Z66 Kc71.1
  have go73 : Go p e below s₁ F0 T71 (mkF m 54 #[vj q1, .second, vj q2, .second, vj q3, .second, vj q4, .second, vj q5, .second, vr b1, vr b17, vr b34, vi (0 : Int32), .unset, .unset, .unset] [(.int n_71)]) := fun t_ k_ => go70 t_ (st71.trans k_)
  have hcs74 : n_71 = (0 : Int32) ∨ n_71 = (1 : Int32) := own_or hP_71
  rcases hcs74 with hcs74 | hcs74
  · skip
    have go75 : Go p e below s₁ F0 T71 (mkF m 54 #[vj q1, .second, vj q2, .second, vj q3, .second, vj q4, .second, vj q5, .second, vr b1, vr b17, vr b34, vi (0 : Int32), .unset, .unset, .unset] [(.int (0 : Int32))]) := by rw [hcs74] at go73; exact go73
    have go76 : Go p e below s₁ F0 T71 (mkF m 57 #[vj q1, .second, vj q2, .second, vj q3, .second, vj q4, .second, vj q5, .second, vr b1, vr b17, vr b34, vi (0 : Int32), vi (0 : Int32), .unset, .unset] [(.int (3 : Int32))]) := by
      intro t_ k_
      refine go75 t_ ?_
      refine o_istore X71 hx (hb hby at_54) (L' := #[vj q1, .second, vj q2, .second, vj q3, .second, vj q4, .second, vj q5, .second, vr b1, vr b17, vr b34, vi (0 : Int32), vi (0 : Int32), .unset, .unset]) rfl ?_
      refine o_iconst X71 hx (hb hby at_56) (v := 3) rfl ?_
      exact k_
    obtain ⟨T77, h77, k77, X77, e77, E77, A77, st77⟩ := newP X71 hx hZ (own_w hw 11 rfl) rfl (g := (mkF m 57 #[vj q1, .second, vj q2, .second, vj q3, .second, vj q4, .second, vj q5, .second, vr b1, vr b17, vr b34, vi (0 : Int32), vi (0 : Int32), .unset, .unset] [(.int (3 : Int32))])) rfl (hb hby at_57) rfl (by decide) (cap := 3) (by decide) (by decide) (by decide) (by decide)
    obtain ⟨b77, gz77⟩ : ∃ z, z = T71.heap.size := ⟨_, rfl⟩
    rw [← gz77] at A77 st77
    have F78 : Exa Z T71.heap b1 c_0 := (F68.keep Kc71)
    have ne79 : b1 ≠ b77 := Nat.ne_of_lt (Nat.lt_of_lt_of_le F78.lt (Nat.le_of_eq gz77.symm))
    have ne80 : bw_10 ≠ b77 := Nat.ne_of_lt (Nat.lt_of_lt_of_le Vw_71.lt (Nat.le_of_eq gz77.symm))
    have F81 : Arv Z T71.heap b17 k17 .long (2 : Int32) [(.long q1), (.long q2)] (.long (0 : Int64)) := ((F63.keep Kc65 (ninS (Ne.symm ne19) (ninS (Ne.symm ne20) (ninS (Ne.symm ne21) (ninS (Ne.symm ne22) nin0))))).keep Kc71 (ninS (Ne.symm ne19) (ninS (Ne.symm ne20) (ninS (Ne.symm ne21) (ninS (Ne.symm ne22) nin0)))))
    have ne82 : b17 ≠ b77 := Nat.ne_of_lt (Nat.lt_of_lt_of_le F81.lt (Nat.le_of_eq gz77.symm))
    have F83 : Arv Z T71.heap b34 k34 .long (2 : Int32) [(.long q3), (.long q4)] (.long (0 : Int64)) := (F69.keep Kc71 (ninS (Ne.symm ne36) (ninS (Ne.symm ne38) (ninS (Ne.symm ne40) (ninS (Ne.symm ne42) nin0)))))
    have ne84 : b34 ≠ b77 := Nat.ne_of_lt (Nat.lt_of_lt_of_le F83.lt (Nat.le_of_eq gz77.symm))
    have g_b77 : n0 ≤ b77 := Nat.le_trans Z72 (Nat.le_of_eq gz77.symm)
    have Z85 : n0 ≤ h77.size := Nat.le_trans Z72 E77.1
    have V77 : Arv Z h77 b77 k77 .long (3 : Int32) [(.long (0 : Int64)), (.long (0 : Int64)), (.long (0 : Int64))] (.long (0 : Int64)) := (Arv.new A77 (by decide)).pad (pad_rep [] (.long (0 : Int64)) 3)
    have go86 : Go p e below s₁ F0 T77 (mkF m 59 #[vj q1, .second, vj q2, .second, vj q3, .second, vj q4, .second, vj q5, .second, vr b1, vr b17, vr b34, vi (0 : Int32), vi (0 : Int32), .unset, .unset] [(.ref b77)]) := fun t_ k_ => go76 t_ (st77 t_ k_)
    have go87 : Go p e below s₁ F0 T77 (mkF m 63 #[vj q1, .second, vj q2, .second, vj q3, .second, vj q4, .second, vj q5, .second, vr b1, vr b17, vr b34, vi (0 : Int32), vi (0 : Int32), .unset, .unset] [(.long q5), (.int (0 : Int32)), (.ref b77), (.ref b77)]) := by
      intro t_ k_
      refine go86 t_ ?_
      refine o_dup X77 hx (hb hby at_59) rfl ?_
      refine o_iconst X77 hx (hb hby at_60) (v := 0) rfl ?_
      refine o_lload X77 hx (hb hby at_61) rfl ?_
      exact k_
    obtain ⟨cl88, Ar88, q88, Sz88, Nn88, Hs88, G88⟩ := id V77
    have hin88 : ¬ ((0 : Int32) < 0 ∨ cl88.slots.size ≤ ((0 : Int32)).toNatClampNeg) := inb_of Sz88 ⟨by decide, by decide⟩
    obtain ⟨T88, h88, X88, e88, W88, st88⟩ := stJ X77 hx hZ e77 Ar88 (j := (0 : Int32)) hin88 (g := (mkF m 63 #[vj q1, .second, vj q2, .second, vj q3, .second, vj q4, .second, vj q5, .second, vr b1, vr b17, vr b34, vi (0 : Int32), vi (0 : Int32), .unset, .unset] [(.long q5), (.int (0 : Int32)), (.ref b77), (.ref b77)])) rfl rfl (hb hby at_63)
    have V88 : Arv Z h88 b77 k77 .long (3 : Int32) [(.long q5), (.long (0 : Int64)), (.long (0 : Int64))] (.long (0 : Int64)) := Arv.set Ar88 q88 Sz88 Nn88 Hs88 G88 rfl W88 0 rfl (Nat.le_of_ble_eq_true rfl)
    have Z89 : n0 ≤ h88.size := Nat.le_trans Z85 (Keep.of_wr W88).1
    have N88 := Fr.snoc X88 N71 g_b77
    have go90 : Go p e below s₁ F0 T88 (mkF m 64 #[vj q1, .second, vj q2, .second, vj q3, .second, vj q4, .second, vj q5, .second, vr b1, vr b17, vr b34, vi (0 : Int32), vi (0 : Int32), .unset, .unset] [(.ref b77)]) := fun t_ k_ => go87 t_ (st88 t_ k_)
    have go91 : Go p e below s₁ F0 T88 (mkF m 68 #[vj q1, .second, vj q2, .second, vj q3, .second, vj q4, .second, vj q5, .second, vr b1, vr b17, vr b34, vi (0 : Int32), vi (0 : Int32), .unset, .unset] [(.long q5), (.int (1 : Int32)), (.ref b77), (.ref b77)]) := by
      intro t_ k_
      refine go90 t_ ?_
      refine o_dup X88 hx (hb hby at_64) rfl ?_
      refine o_iconst X88 hx (hb hby at_65) (v := 1) rfl ?_
      refine o_lload X88 hx (hb hby at_66) rfl ?_
      exact k_
    obtain ⟨cl92, Ar92, q92, Sz92, Nn92, Hs92, G92⟩ := id V88
    have hin92 : ¬ ((1 : Int32) < 0 ∨ cl92.slots.size ≤ ((1 : Int32)).toNatClampNeg) := inb_of Sz92 ⟨by decide, by decide⟩
    obtain ⟨T92, h92, X92, e92, W92, st92⟩ := stJ X88 hx hZ e88 Ar92 (j := (1 : Int32)) hin92 (g := (mkF m 68 #[vj q1, .second, vj q2, .second, vj q3, .second, vj q4, .second, vj q5, .second, vr b1, vr b17, vr b34, vi (0 : Int32), vi (0 : Int32), .unset, .unset] [(.long q5), (.int (1 : Int32)), (.ref b77), (.ref b77)])) rfl rfl (hb hby at_68)
    have V92 : Arv Z h92 b77 k77 .long (3 : Int32) [(.long q5), (.long q5), (.long (0 : Int64))] (.long (0 : Int64)) := Arv.set Ar92 q92 Sz92 Nn92 Hs92 G92 rfl W92 1 rfl (Nat.le_of_ble_eq_true rfl)
    have Z93 : n0 ≤ h92.size := Nat.le_trans Z89 (Keep.of_wr W92).1
    have N92 := Fr.snoc X92 N88 g_b77
    have go94 : Go p e below s₁ F0 T92 (mkF m 69 #[vj q1, .second, vj q2, .second, vj q3, .second, vj q4, .second, vj q5, .second, vr b1, vr b17, vr b34, vi (0 : Int32), vi (0 : Int32), .unset, .unset] [(.ref b77)]) := fun t_ k_ => go91 t_ (st92 t_ k_)
    have go95 : Go p e below s₁ F0 T92 (mkF m 73 #[vj q1, .second, vj q2, .second, vj q3, .second, vj q4, .second, vj q5, .second, vr b1, vr b17, vr b34, vi (0 : Int32), vi (0 : Int32), .unset, .unset] [(.long q5), (.int (2 : Int32)), (.ref b77), (.ref b77)]) := by
      intro t_ k_
      refine go94 t_ ?_
      refine o_dup X92 hx (hb hby at_69) rfl ?_
      refine o_iconst X92 hx (hb hby at_70) (v := 2) rfl ?_
      refine o_lload X92 hx (hb hby at_71) rfl ?_
      exact k_
    obtain ⟨cl96, Ar96, q96, Sz96, Nn96, Hs96, G96⟩ := id V92
    have hin96 : ¬ ((2 : Int32) < 0 ∨ cl96.slots.size ≤ ((2 : Int32)).toNatClampNeg) := inb_of Sz96 ⟨by decide, by decide⟩
    obtain ⟨T96, h96, X96, e96, W96, st96⟩ := stJ X92 hx hZ e92 Ar96 (j := (2 : Int32)) hin96 (g := (mkF m 73 #[vj q1, .second, vj q2, .second, vj q3, .second, vj q4, .second, vj q5, .second, vr b1, vr b17, vr b34, vi (0 : Int32), vi (0 : Int32), .unset, .unset] [(.long q5), (.int (2 : Int32)), (.ref b77), (.ref b77)])) rfl rfl (hb hby at_73)
    have V96 : Arv Z h96 b77 k77 .long (3 : Int32) [(.long q5), (.long q5), (.long q5)] (.long (0 : Int64)) := Arv.set Ar96 q96 Sz96 Nn96 Hs96 G96 rfl W96 2 rfl (Nat.le_of_ble_eq_true rfl)
    have Z97 : n0 ≤ h96.size := Nat.le_trans Z93 (Keep.of_wr W96).1
    have N96 := Fr.snoc X96 N92 g_b77
    have go98 : Go p e below s₁ F0 T96 (mkF m 74 #[vj q1, .second, vj q2, .second, vj q3, .second, vj q4, .second, vj q5, .second, vr b1, vr b17, vr b34, vi (0 : Int32), vi (0 : Int32), .unset, .unset] [(.ref b77)]) := fun t_ k_ => go95 t_ (st96 t_ k_)
    have go99 : Go p e below s₁ F0 T96 (mkF m 77 #[vj q1, .second, vj q2, .second, vj q3, .second, vj q4, .second, vj q5, .second, vr b1, vr b17, vr b34, vi (0 : Int32), vi (0 : Int32), vr b77, .unset] [(.int (3 : Int32))]) := by
      intro t_ k_
      refine go98 t_ ?_
      refine o_astore X96 hx (hb hby at_74) rfl (L' := #[vj q1, .second, vj q2, .second, vj q3, .second, vj q4, .second, vj q5, .second, vr b1, vr b17, vr b34, vi (0 : Int32), vi (0 : Int32), vr b77, .unset]) rfl ?_
      refine o_iconst X96 hx (hb hby at_76) (v := 3) rfl ?_
      exact k_
    obtain ⟨T100, h100, k100, X100, e100, E100, A100, st100⟩ := newP X96 hx hZ (own_w hw 11 rfl) e96 (g := (mkF m 77 #[vj q1, .second, vj q2, .second, vj q3, .second, vj q4, .second, vj q5, .second, vr b1, vr b17, vr b34, vi (0 : Int32), vi (0 : Int32), vr b77, .unset] [(.int (3 : Int32))])) rfl (hb hby at_77) rfl (by decide) (cap := 3) (by decide) (by decide) (by decide) (by decide)
    obtain ⟨b100, gz100⟩ : ∃ z, z = h96.size := ⟨_, rfl⟩
    rw [← gz100] at A100 st100
    have F101 : Exa Z h96 b1 c_0 := ((((F78.ext E77).wr W88).wr W92).wr W96)
    have ne102 : b1 ≠ b100 := Nat.ne_of_lt (Nat.lt_of_lt_of_le F101.lt (Nat.le_of_eq gz100.symm))
    have F103 : Arv Z h96 bw_10 kw_10 .long (32 : Int32) ((.long q1) :: (.long q2) :: (.long w0_71) :: (.long w1_71) :: own_zl 28) (.long (0 : Int64)) := ((((Vw_71.ext E77).other W88 ne80).other W92 ne80).other W96 ne80)
    have ne104 : bw_10 ≠ b100 := Nat.ne_of_lt (Nat.lt_of_lt_of_le F103.lt (Nat.le_of_eq gz100.symm))
    have F105 : Arv Z h96 b17 k17 .long (2 : Int32) [(.long q1), (.long q2)] (.long (0 : Int64)) := ((((F81.ext E77).other W88 ne82).other W92 ne82).other W96 ne82)
    have ne106 : b17 ≠ b100 := Nat.ne_of_lt (Nat.lt_of_lt_of_le F105.lt (Nat.le_of_eq gz100.symm))
    have F107 : Arv Z h96 b34 k34 .long (2 : Int32) [(.long q3), (.long q4)] (.long (0 : Int64)) := ((((F83.ext E77).other W88 ne84).other W92 ne84).other W96 ne84)
    have ne108 : b34 ≠ b100 := Nat.ne_of_lt (Nat.lt_of_lt_of_le F107.lt (Nat.le_of_eq gz100.symm))
    have ne109 : b77 ≠ b100 := Nat.ne_of_lt (Nat.lt_of_lt_of_le V96.lt (Nat.le_of_eq gz100.symm))
    have g_b100 : n0 ≤ b100 := Nat.le_trans Z97 (Nat.le_of_eq gz100.symm)
    have Z110 : n0 ≤ h100.size := Nat.le_trans Z97 E100.1
    have V100 : Arv Z h100 b100 k100 .long (3 : Int32) [(.long (0 : Int64)), (.long (0 : Int64)), (.long (0 : Int64))] (.long (0 : Int64)) := (Arv.new A100 (by decide)).pad (pad_rep [] (.long (0 : Int64)) 3)
    have go111 : Go p e below s₁ F0 T100 (mkF m 79 #[vj q1, .second, vj q2, .second, vj q3, .second, vj q4, .second, vj q5, .second, vr b1, vr b17, vr b34, vi (0 : Int32), vi (0 : Int32), vr b77, .unset] [(.ref b100)]) := fun t_ k_ => go99 t_ (st100 t_ k_)
    have go112 : Go p e below s₁ F0 T100 (mkF m 83 #[vj q1, .second, vj q2, .second, vj q3, .second, vj q4, .second, vj q5, .second, vr b1, vr b17, vr b34, vi (0 : Int32), vi (0 : Int32), vr b77, .unset] [(.long q5), (.int (0 : Int32)), (.ref b100), (.ref b100)]) := by
      intro t_ k_
      refine go111 t_ ?_
      refine o_dup X100 hx (hb hby at_79) rfl ?_
      refine o_iconst X100 hx (hb hby at_80) (v := 0) rfl ?_
      refine o_lload X100 hx (hb hby at_81) rfl ?_
      exact k_
    obtain ⟨cl113, Ar113, q113, Sz113, Nn113, Hs113, G113⟩ := id V100
    have hin113 : ¬ ((0 : Int32) < 0 ∨ cl113.slots.size ≤ ((0 : Int32)).toNatClampNeg) := inb_of Sz113 ⟨by decide, by decide⟩
    obtain ⟨T113, h113, X113, e113, W113, st113⟩ := stJ X100 hx hZ e100 Ar113 (j := (0 : Int32)) hin113 (g := (mkF m 83 #[vj q1, .second, vj q2, .second, vj q3, .second, vj q4, .second, vj q5, .second, vr b1, vr b17, vr b34, vi (0 : Int32), vi (0 : Int32), vr b77, .unset] [(.long q5), (.int (0 : Int32)), (.ref b100), (.ref b100)])) rfl rfl (hb hby at_83)
    have V113 : Arv Z h113 b100 k100 .long (3 : Int32) [(.long q5), (.long (0 : Int64)), (.long (0 : Int64))] (.long (0 : Int64)) := Arv.set Ar113 q113 Sz113 Nn113 Hs113 G113 rfl W113 0 rfl (Nat.le_of_ble_eq_true rfl)
    have Z114 : n0 ≤ h113.size := Nat.le_trans Z110 (Keep.of_wr W113).1
    have N113 := Fr.snoc X113 N96 g_b100
    have go115 : Go p e below s₁ F0 T113 (mkF m 84 #[vj q1, .second, vj q2, .second, vj q3, .second, vj q4, .second, vj q5, .second, vr b1, vr b17, vr b34, vi (0 : Int32), vi (0 : Int32), vr b77, .unset] [(.ref b100)]) := fun t_ k_ => go112 t_ (st113 t_ k_)
    have go116 : Go p e below s₁ F0 T113 (mkF m 88 #[vj q1, .second, vj q2, .second, vj q3, .second, vj q4, .second, vj q5, .second, vr b1, vr b17, vr b34, vi (0 : Int32), vi (0 : Int32), vr b77, .unset] [(.long q5), (.int (1 : Int32)), (.ref b100), (.ref b100)]) := by
      intro t_ k_
      refine go115 t_ ?_
      refine o_dup X113 hx (hb hby at_84) rfl ?_
      refine o_iconst X113 hx (hb hby at_85) (v := 1) rfl ?_
      refine o_lload X113 hx (hb hby at_86) rfl ?_
      exact k_
    obtain ⟨cl117, Ar117, q117, Sz117, Nn117, Hs117, G117⟩ := id V113
    have hin117 : ¬ ((1 : Int32) < 0 ∨ cl117.slots.size ≤ ((1 : Int32)).toNatClampNeg) := inb_of Sz117 ⟨by decide, by decide⟩
    obtain ⟨T117, h117, X117, e117, W117, st117⟩ := stJ X113 hx hZ e113 Ar117 (j := (1 : Int32)) hin117 (g := (mkF m 88 #[vj q1, .second, vj q2, .second, vj q3, .second, vj q4, .second, vj q5, .second, vr b1, vr b17, vr b34, vi (0 : Int32), vi (0 : Int32), vr b77, .unset] [(.long q5), (.int (1 : Int32)), (.ref b100), (.ref b100)])) rfl rfl (hb hby at_88)
    have V117 : Arv Z h117 b100 k100 .long (3 : Int32) [(.long q5), (.long q5), (.long (0 : Int64))] (.long (0 : Int64)) := Arv.set Ar117 q117 Sz117 Nn117 Hs117 G117 rfl W117 1 rfl (Nat.le_of_ble_eq_true rfl)
    have Z118 : n0 ≤ h117.size := Nat.le_trans Z114 (Keep.of_wr W117).1
    have N117 := Fr.snoc X117 N113 g_b100
    have go119 : Go p e below s₁ F0 T117 (mkF m 89 #[vj q1, .second, vj q2, .second, vj q3, .second, vj q4, .second, vj q5, .second, vr b1, vr b17, vr b34, vi (0 : Int32), vi (0 : Int32), vr b77, .unset] [(.ref b100)]) := fun t_ k_ => go116 t_ (st117 t_ k_)
    have go120 : Go p e below s₁ F0 T117 (mkF m 93 #[vj q1, .second, vj q2, .second, vj q3, .second, vj q4, .second, vj q5, .second, vr b1, vr b17, vr b34, vi (0 : Int32), vi (0 : Int32), vr b77, .unset] [(.long q5), (.int (2 : Int32)), (.ref b100), (.ref b100)]) := by
      intro t_ k_
      refine go119 t_ ?_
      refine o_dup X117 hx (hb hby at_89) rfl ?_
      refine o_iconst X117 hx (hb hby at_90) (v := 2) rfl ?_
      refine o_lload X117 hx (hb hby at_91) rfl ?_
      exact k_
    obtain ⟨cl121, Ar121, q121, Sz121, Nn121, Hs121, G121⟩ := id V117
    have hin121 : ¬ ((2 : Int32) < 0 ∨ cl121.slots.size ≤ ((2 : Int32)).toNatClampNeg) := inb_of Sz121 ⟨by decide, by decide⟩
    obtain ⟨T121, h121, X121, e121, W121, st121⟩ := stJ X117 hx hZ e117 Ar121 (j := (2 : Int32)) hin121 (g := (mkF m 93 #[vj q1, .second, vj q2, .second, vj q3, .second, vj q4, .second, vj q5, .second, vr b1, vr b17, vr b34, vi (0 : Int32), vi (0 : Int32), vr b77, .unset] [(.long q5), (.int (2 : Int32)), (.ref b100), (.ref b100)])) rfl rfl (hb hby at_93)
    have V121 : Arv Z h121 b100 k100 .long (3 : Int32) [(.long q5), (.long q5), (.long q5)] (.long (0 : Int64)) := Arv.set Ar121 q121 Sz121 Nn121 Hs121 G121 rfl W121 2 rfl (Nat.le_of_ble_eq_true rfl)
    have Z122 : n0 ≤ h121.size := Nat.le_trans Z118 (Keep.of_wr W121).1
    have N121 := Fr.snoc X121 N117 g_b100
    have go123 : Go p e below s₁ F0 T121 (mkF m 94 #[vj q1, .second, vj q2, .second, vj q3, .second, vj q4, .second, vj q5, .second, vr b1, vr b17, vr b34, vi (0 : Int32), vi (0 : Int32), vr b77, .unset] [(.ref b100)]) := fun t_ k_ => go120 t_ (st121 t_ k_)
    have F124 : Fld Z h121 b1 c_0 "width" "I" (.int (2 : Int32)) := ((((((((Fwi_71.ext E77).other W88 (Or.inl ne79)).other W92 (Or.inl ne79)).other W96 (Or.inl ne79)).ext E100).other W113 (Or.inl ne102)).other W117 (Or.inl ne102)).other W121 (Or.inl ne102))
    have F125 : Fld Z h121 b1 c_0 "words" "[J" (.ref bw_10) := ((((((((Fwo_71.ext E77).other W88 (Or.inl ne79)).other W92 (Or.inl ne79)).other W96 (Or.inl ne79)).ext E100).other W113 (Or.inl ne102)).other W117 (Or.inl ne102)).other W121 (Or.inl ne102))
    have F126 : Arv Z h121 bw_10 kw_10 .long (32 : Int32) ((.long q1) :: (.long q2) :: (.long w0_71) :: (.long w1_71) :: own_zl 28) (.long (0 : Int64)) := ((((F103.ext E100).other W113 ne104).other W117 ne104).other W121 ne104)
    have F127 : Arv Z h121 b77 k77 .long (3 : Int32) [(.long q5), (.long q5), (.long q5)] (.long (0 : Int64)) := ((((V96.ext E100).other W113 ne109).other W117 ne109).other W121 ne109)
    have go128 : Go p e below s₁ F0 T121 (mkF m 102 #[vj q1, .second, vj q2, .second, vj q3, .second, vj q4, .second, vj q5, .second, vr b1, vr b17, vr b34, vi (0 : Int32), vi (0 : Int32), vr b77, vr b100] [(.ref b77), (.int (0 : Int32)), (.ref b1)]) := by
      intro t_ k_
      refine go123 t_ ?_
      refine o_astore X121 hx (hb hby at_94) rfl (L' := #[vj q1, .second, vj q2, .second, vj q3, .second, vj q4, .second, vj q5, .second, vr b1, vr b17, vr b34, vi (0 : Int32), vi (0 : Int32), vr b77, vr b100]) rfl ?_
      refine o_aload X121 hx (hb hby at_96) rfl rfl ?_
      refine o_iload X121 hx (hb hby at_98) rfl ?_
      refine o_aload X121 hx (hb hby at_100) rfl rfl ?_
      exact k_
    have F130 : Exa Z h121 b1 c_0 := ((((F101.ext E100).wr W113).wr W117).wr W121)
    obtain ⟨cq129, kq129, q129a, q129b, q129c⟩ := isOf hZ e121 F130
    obtain ⟨_, _, ⟨T129, L129, k129, n129⟩, -, X129, ⟨Lc129, hQ129, l129, y129, z129⟩, st129⟩ := X121.virtualBack hx (y := y_6) (z := y_6) hown (mvT hZ (own_w hw 42 rfl)) (mvT hZ (own_w hw 43 rfl)) (notFace_of_selects (args := #[]) (mvT hZ (own_w hw 45 rfl))) (mvT hZ (own_w hw 45 rfl)) (mvT hZ (own_w hw 44 rfl)) (by decide) (backOf (W := 0) (rm7_0 l Z a0 hw [] b1 b77 bw_10 kw_10 k77 q1 q2 w0_71 w1_71 q5 q5 q5 h121 n0 Z122 F124 F125 F126 F127 g_b77) hZ (own_w hw 46 rfl) (own_w hw 2 rfl) (by decide) (by decide)) q129a q129c (g := (mkF m 102 #[vj q1, .second, vj q2, .second, vj q3, .second, vj q4, .second, vj q5, .second, vr b1, vr b17, vr b34, vi (0 : Int32), vi (0 : Int32), vr b77, vr b100] [(.ref b77), (.int (0 : Int32)), (.ref b1)])) rfl (by rw [hml]; rfl) (Steps.refl _) (argsL := [(.int (0 : Int32)), (.ref b77)]) (rest := []) (lenOf pd0_2 rfl) rfl (by show 2 * 0 + _ ≤ _; exact Nat.le_of_eq rfl) (hb hby at_102) (fun _ _ => ⟨rfl, e121, (by decide : 8 + 0 ≤ _), (by decide : 95 + 0 ≤ _)⟩)
    dsimp only [Pt.U, Pt.locs, Pt.cells, Pt.slots] at X129 l129 y129 z129 st129 hQ129
    subst l129 y129 z129
    obtain ⟨rfl, Nq129, Kc129, V3_129⟩ := hQ129
    have N129 := Fr.app N121 Nq129
    have Z131 : n0 ≤ T129.heap.size := Nat.le_trans Z122 Kc129.1
    have go132 : Go p e below s₁ F0 T129 (mkF m 105 #[vj q1, .second, vj q2, .second, vj q3, .second, vj q4, .second, vj q5, .second, vr b1, vr b17, vr b34, vi (0 : Int32), vi (0 : Int32), vr b77, vr b100] []) := fun t_ k_ => go128 t_ (st129.trans k_)
    have F133 : Fld Z T129.heap b1 c_0 "width" "I" (.int (2 : Int32)) := (F124.keep Kc129 (ninS ne79 nin0))
    have F134 : Fld Z T129.heap b1 c_0 "words" "[J" (.ref bw_10) := (F125.keep Kc129 (ninS ne79 nin0))
    have F135 : Arv Z T129.heap bw_10 kw_10 .long (32 : Int32) ((.long q1) :: (.long q2) :: (.long w0_71) :: (.long w1_71) :: own_zl 28) (.long (0 : Int64)) := (F126.keep Kc129 (ninS ne80 nin0))
    have F136 : Arv Z T129.heap b100 k100 .long (3 : Int32) [(.long q5), (.long q5), (.long q5)] (.long (0 : Int64)) := (V121.keep Kc129 (ninS (Ne.symm ne109) nin0))
    have go137 : Go p e below s₁ F0 T129 (mkF m 111 #[vj q1, .second, vj q2, .second, vj q3, .second, vj q4, .second, vj q5, .second, vr b1, vr b17, vr b34, vi (0 : Int32), vi (0 : Int32), vr b77, vr b100] [(.ref b100), (.int (0 : Int32)), (.ref b1)]) := by
      intro t_ k_
      refine go132 t_ ?_
      refine o_aload X129 hx (hb hby at_105) rfl rfl ?_
      refine o_iload X129 hx (hb hby at_107) rfl ?_
      refine o_aload X129 hx (hb hby at_109) rfl rfl ?_
      exact k_
    have F139 : Exa Z T129.heap b1 c_0 := (F130.keep Kc129)
    obtain ⟨cq138, kq138, q138a, q138b, q138c⟩ := isOf hZ rfl F139
    obtain ⟨_, _, ⟨T138, L138, k138, n138⟩, -, X138, ⟨Lc138, hQ138, l138, y138, z138⟩, st138⟩ := X129.virtualBack hx (y := y_6) (z := y_6) hown (mvT hZ (own_w hw 42 rfl)) (mvT hZ (own_w hw 43 rfl)) (notFace_of_selects (args := #[]) (mvT hZ (own_w hw 45 rfl))) (mvT hZ (own_w hw 45 rfl)) (mvT hZ (own_w hw 44 rfl)) (by decide) (backOf (W := 0) (rm7_0 l Z a0 hw [] b1 b100 bw_10 kw_10 k100 q1 q2 w0_71 w1_71 q5 q5 q5 (T129.heap) n0 Z131 F133 F134 F135 F136 g_b100) hZ (own_w hw 46 rfl) (own_w hw 2 rfl) (by decide) (by decide)) q138a q138c (g := (mkF m 111 #[vj q1, .second, vj q2, .second, vj q3, .second, vj q4, .second, vj q5, .second, vr b1, vr b17, vr b34, vi (0 : Int32), vi (0 : Int32), vr b77, vr b100] [(.ref b100), (.int (0 : Int32)), (.ref b1)])) rfl (by rw [hml]; rfl) (Steps.refl _) (argsL := [(.int (0 : Int32)), (.ref b100)]) (rest := []) (lenOf pd0_2 rfl) rfl (by show 2 * 0 + _ ≤ _; exact Nat.le_of_eq rfl) (hb hby at_111) (fun _ _ => ⟨rfl, rfl, (by decide : 8 + 0 ≤ _), (by decide : 95 + 0 ≤ _)⟩)
    dsimp only [Pt.U, Pt.locs, Pt.cells, Pt.slots] at X138 l138 y138 z138 st138 hQ138
    subst l138 y138 z138
    obtain ⟨rfl, Nq138, Kc138, V3_138⟩ := hQ138
    have N138 := Fr.app N129 Nq138
    have Z140 : n0 ≤ T138.heap.size := Nat.le_trans Z131 Kc138.1
    have go141 : Go p e below s₁ F0 T138 (mkF m 114 #[vj q1, .second, vj q2, .second, vj q3, .second, vj q4, .second, vj q5, .second, vr b1, vr b17, vr b34, vi (0 : Int32), vi (0 : Int32), vr b77, vr b100] []) := fun t_ k_ => go137 t_ (st138.trans k_)
    have F142 : Arv Z T138.heap b77 k77 .long (3 : Int32) [(.long q1), (.long q2), (.long q5)] (.long (0 : Int64)) := (V3_129.keep Kc138 (ninS ne109 nin0))
    have go143 : Go p e below s₁ F0 T138 (mkF m 117 #[vj q1, .second, vj q2, .second, vj q3, .second, vj q4, .second, vj q5, .second, vr b1, vr b17, vr b34, vi (0 : Int32), vi (0 : Int32), vr b77, vr b100] [(.int (0 : Int32)), (.ref b77)]) := by
      intro t_ k_
      refine go141 t_ ?_
      refine o_aload X138 hx (hb hby at_114) rfl rfl ?_
      refine o_iconst X138 hx (hb hby at_116) (v := 0) rfl ?_
      exact k_
    obtain ⟨cl144, Ar144, -, Sz144, Nn144, Hs144, -⟩ := id F142
    have hin144 : ¬ ((0 : Int32) < 0 ∨ cl144.slots.size ≤ ((0 : Int32)).toNatClampNeg) := inb_of Sz144 ⟨by decide, by decide⟩
    have hat144 : cl144.slots[((0 : Int32)).toNatClampNeg]? = some (.long q1) := Hs144.at hin144 rfl
    have go145 : Go p e below s₁ F0 T138 (mkF m 126 #[vj q1, .second, vj q2, .second, vj q3, .second, vj q4, .second, vj q5, .second, vr b1, vr b17, vr b34, vi (0 : Int32), vi (0 : Int32), vr b77, vr b100] [(.int (1 : Int32)), (.ref b77)]) := by
      intro t_ k_
      refine go143 t_ ?_
      refine o_laload X138 hx hZ rfl Ar144 hin144 hat144 (hb hby at_117) ?_
      refine o_lloadN X138 hx (hb hby at_118) rfl ?_
      refine o_lcmp X138 hx (hb hby at_119) ?_
      refine o_ifNo X138 hx (hb hby at_120) ((if0 _ _).trans (teq ((lw_eq _ _).mpr (rfl : q1 = q1))).2) ?_
      refine o_aload X138 hx (hb hby at_123) rfl rfl ?_
      refine o_iconst X138 hx (hb hby at_125) (v := 1) rfl ?_
      exact k_
    obtain ⟨cl146, Ar146, -, Sz146, Nn146, Hs146, -⟩ := id F142
    have hin146 : ¬ ((1 : Int32) < 0 ∨ cl146.slots.size ≤ ((1 : Int32)).toNatClampNeg) := inb_of Sz146 ⟨by decide, by decide⟩
    have hat146 : cl146.slots[((1 : Int32)).toNatClampNeg]? = some (.long q2) := Hs146.at hin146 rfl
    have go147 : Go p e below s₁ F0 T138 (mkF m 135 #[vj q1, .second, vj q2, .second, vj q3, .second, vj q4, .second, vj q5, .second, vr b1, vr b17, vr b34, vi (0 : Int32), vi (0 : Int32), vr b77, vr b100] [(.int (2 : Int32)), (.ref b77)]) := by
      intro t_ k_
      refine go145 t_ ?_
      refine o_laload X138 hx hZ rfl Ar146 hin146 hat146 (hb hby at_126) ?_
      refine o_lloadN X138 hx (hb hby at_127) rfl ?_
      refine o_lcmp X138 hx (hb hby at_128) ?_
      refine o_ifNo X138 hx (hb hby at_129) ((if0 _ _).trans (teq ((lw_eq _ _).mpr (rfl : q2 = q2))).2) ?_
      refine o_aload X138 hx (hb hby at_132) rfl rfl ?_
      refine o_iconst X138 hx (hb hby at_134) (v := 2) rfl ?_
      exact k_
    obtain ⟨cl148, Ar148, -, Sz148, Nn148, Hs148, -⟩ := id F142
    have hin148 : ¬ ((2 : Int32) < 0 ∨ cl148.slots.size ≤ ((2 : Int32)).toNatClampNeg) := inb_of Sz148 ⟨by decide, by decide⟩
    have hat148 : cl148.slots[((2 : Int32)).toNatClampNeg]? = some (.long q5) := Hs148.at hin148 rfl
    have go149 : Go p e below s₁ F0 T138 (mkF m 145 #[vj q1, .second, vj q2, .second, vj q3, .second, vj q4, .second, vj q5, .second, vr b1, vr b17, vr b34, vi (0 : Int32), vi (0 : Int32), vr b77, vr b100] [(.int (0 : Int32)), (.ref b100)]) := by
      intro t_ k_
      refine go147 t_ ?_
      refine o_laload X138 hx hZ rfl Ar148 hin148 hat148 (hb hby at_135) ?_
      refine o_lload X138 hx (hb hby at_136) rfl ?_
      refine o_lcmp X138 hx (hb hby at_138) ?_
      refine o_ifNo X138 hx (hb hby at_139) ((if0 _ _).trans (teq ((lw_eq _ _).mpr (rfl : q5 = q5))).2) ?_
      refine o_aload X138 hx (hb hby at_142) rfl rfl ?_
      refine o_iconst X138 hx (hb hby at_144) (v := 0) rfl ?_
      exact k_
    obtain ⟨cl150, Ar150, -, Sz150, Nn150, Hs150, -⟩ := id V3_138
    have hin150 : ¬ ((0 : Int32) < 0 ∨ cl150.slots.size ≤ ((0 : Int32)).toNatClampNeg) := inb_of Sz150 ⟨by decide, by decide⟩
    have hat150 : cl150.slots[((0 : Int32)).toNatClampNeg]? = some (.long q1) := Hs150.at hin150 rfl
    have go152 : Go p e below s₁ F0 T138 (mkF m 149 #[vj q1, .second, vj q2, .second, vj q3, .second, vj q4, .second, vj q5, .second, vr b1, vr b17, vr b34, vi (0 : Int32), vi (0 : Int32), vr b77, vr b100] [(.int (lcmpW q1 q3))]) := by
      intro t_ k_
      refine go149 t_ ?_
      refine o_laload X138 hx hZ rfl Ar150 hin150 hat150 (hb hby at_145) ?_
      refine o_lload X138 hx (hb hby at_146) rfl ?_
      refine o_lcmp X138 hx (hb hby at_148) ?_
      exact k_
    have hd151 : q1 = q3 := (own_l hP_71 hcs74).1
    have go153 : Go p e below s₁ F0 T138 (mkF m 155 #[vj q1, .second, vj q2, .second, vj q3, .second, vj q4, .second, vj q5, .second, vr b1, vr b17, vr b34, vi (0 : Int32), vi (0 : Int32), vr b77, vr b100] [(.int (1 : Int32)), (.ref b100)]) := by
      intro t_ k_
      refine go152 t_ ?_
      refine o_ifNo X138 hx (hb hby at_149) ((if0 _ _).trans (teq ((lw_eq _ _).mpr hd151)).2) ?_
      refine o_aload X138 hx (hb hby at_152) rfl rfl ?_
      refine o_iconst X138 hx (hb hby at_154) (v := 1) rfl ?_
      exact k_
    obtain ⟨cl154, Ar154, -, Sz154, Nn154, Hs154, -⟩ := id V3_138
    have hin154 : ¬ ((1 : Int32) < 0 ∨ cl154.slots.size ≤ ((1 : Int32)).toNatClampNeg) := inb_of Sz154 ⟨by decide, by decide⟩
    have hat154 : cl154.slots[((1 : Int32)).toNatClampNeg]? = some (.long q2) := Hs154.at hin154 rfl
    have go156 : Go p e below s₁ F0 T138 (mkF m 159 #[vj q1, .second, vj q2, .second, vj q3, .second, vj q4, .second, vj q5, .second, vr b1, vr b17, vr b34, vi (0 : Int32), vi (0 : Int32), vr b77, vr b100] [(.int (lcmpW q2 q4))]) := by
      intro t_ k_
      refine go153 t_ ?_
      refine o_laload X138 hx hZ rfl Ar154 hin154 hat154 (hb hby at_155) ?_
      refine o_lload X138 hx (hb hby at_156) rfl ?_
      refine o_lcmp X138 hx (hb hby at_158) ?_
      exact k_
    have hd155 : q2 = q4 := (own_l hP_71 hcs74).2
    have go157 : Go p e below s₁ F0 T138 (mkF m 165 #[vj q1, .second, vj q2, .second, vj q3, .second, vj q4, .second, vj q5, .second, vr b1, vr b17, vr b34, vi (0 : Int32), vi (0 : Int32), vr b77, vr b100] [(.int (2 : Int32)), (.ref b100)]) := by
      intro t_ k_
      refine go156 t_ ?_
      refine o_ifNo X138 hx (hb hby at_159) ((if0 _ _).trans (teq ((lw_eq _ _).mpr hd155)).2) ?_
      refine o_aload X138 hx (hb hby at_162) rfl rfl ?_
      refine o_iconst X138 hx (hb hby at_164) (v := 2) rfl ?_
      exact k_
    obtain ⟨cl158, Ar158, -, Sz158, Nn158, Hs158, -⟩ := id V3_138
    have hin158 : ¬ ((2 : Int32) < 0 ∨ cl158.slots.size ≤ ((2 : Int32)).toNatClampNeg) := inb_of Sz158 ⟨by decide, by decide⟩
    have hat158 : cl158.slots[((2 : Int32)).toNatClampNeg]? = some (.long q5) := Hs158.at hin158 rfl
    have go159 : Go p e below s₁ F0 T138 (mkF m 177 #[vj q1, .second, vj q2, .second, vj q3, .second, vj q4, .second, vj q5, .second, vr b1, vr b17, vr b34, vi (0 : Int32), vi (0 : Int32), vr b77, vr b100] [(.int (1 : Int32))]) := by
      intro t_ k_
      refine go157 t_ ?_
      refine o_laload X138 hx hZ rfl Ar158 hin158 hat158 (hb hby at_165) ?_
      refine o_lload X138 hx (hb hby at_166) rfl ?_
      refine o_lcmp X138 hx (hb hby at_168) ?_
      refine o_ifNo X138 hx (hb hby at_169) ((if0 _ _).trans (teq ((lw_eq _ _).mpr (rfl : q5 = q5))).2) ?_
      refine o_iconst X138 hx (hb hby at_172) (v := 1) rfl ?_
      refine o_goto X138 hx (hb hby at_173) (pc' := 177) rfl (by decide) ?_
      exact k_
    obtain ⟨fs, hr, hrun, hended, hW, hsame⟩ := X138.leave (v := some (.int (1 : Int32))) (fun h => by rw [Bd.returns] at h; cases h)
    refine ⟨_, _, pre0 _ (go159 _ ?_), hrun, hended, _, _, rfl, ?_, ⟨_, rfl⟩, hW, hsame.mono (by decide) (by decide)⟩
    · skip
      exact retN X138 hx (t := .boolean) Bd.returns (by simp) (hb hby at_177) hr
    · show Q0 Z q1 q2 q3 q4 q5 h0 n0 _ T138.heap _
      exact ⟨rfl, N138⟩
  · skip
    have go160 : Go p e below s₁ F0 T71 (mkF m 54 #[vj q1, .second, vj q2, .second, vj q3, .second, vj q4, .second, vj q5, .second, vr b1, vr b17, vr b34, vi (0 : Int32), .unset, .unset, .unset] [(.int (1 : Int32))]) := by rw [hcs74] at go73; exact go73
    have go161 : Go p e below s₁ F0 T71 (mkF m 57 #[vj q1, .second, vj q2, .second, vj q3, .second, vj q4, .second, vj q5, .second, vr b1, vr b17, vr b34, vi (0 : Int32), vi (1 : Int32), .unset, .unset] [(.int (3 : Int32))]) := by
      intro t_ k_
      refine go160 t_ ?_
      refine o_istore X71 hx (hb hby at_54) (L' := #[vj q1, .second, vj q2, .second, vj q3, .second, vj q4, .second, vj q5, .second, vr b1, vr b17, vr b34, vi (0 : Int32), vi (1 : Int32), .unset, .unset]) rfl ?_
      refine o_iconst X71 hx (hb hby at_56) (v := 3) rfl ?_
      exact k_
    obtain ⟨T162, h162, k162, X162, e162, E162, A162, st162⟩ := newP X71 hx hZ (own_w hw 11 rfl) rfl (g := (mkF m 57 #[vj q1, .second, vj q2, .second, vj q3, .second, vj q4, .second, vj q5, .second, vr b1, vr b17, vr b34, vi (0 : Int32), vi (1 : Int32), .unset, .unset] [(.int (3 : Int32))])) rfl (hb hby at_57) rfl (by decide) (cap := 3) (by decide) (by decide) (by decide) (by decide)
    obtain ⟨b162, gz162⟩ : ∃ z, z = T71.heap.size := ⟨_, rfl⟩
    rw [← gz162] at A162 st162
    have F163 : Exa Z T71.heap b1 c_0 := (F68.keep Kc71)
    have ne164 : b1 ≠ b162 := Nat.ne_of_lt (Nat.lt_of_lt_of_le F163.lt (Nat.le_of_eq gz162.symm))
    have ne165 : bw_10 ≠ b162 := Nat.ne_of_lt (Nat.lt_of_lt_of_le Vw_71.lt (Nat.le_of_eq gz162.symm))
    have F166 : Arv Z T71.heap b17 k17 .long (2 : Int32) [(.long q1), (.long q2)] (.long (0 : Int64)) := ((F63.keep Kc65 (ninS (Ne.symm ne19) (ninS (Ne.symm ne20) (ninS (Ne.symm ne21) (ninS (Ne.symm ne22) nin0))))).keep Kc71 (ninS (Ne.symm ne19) (ninS (Ne.symm ne20) (ninS (Ne.symm ne21) (ninS (Ne.symm ne22) nin0)))))
    have ne167 : b17 ≠ b162 := Nat.ne_of_lt (Nat.lt_of_lt_of_le F166.lt (Nat.le_of_eq gz162.symm))
    have F168 : Arv Z T71.heap b34 k34 .long (2 : Int32) [(.long q3), (.long q4)] (.long (0 : Int64)) := (F69.keep Kc71 (ninS (Ne.symm ne36) (ninS (Ne.symm ne38) (ninS (Ne.symm ne40) (ninS (Ne.symm ne42) nin0)))))
    have ne169 : b34 ≠ b162 := Nat.ne_of_lt (Nat.lt_of_lt_of_le F168.lt (Nat.le_of_eq gz162.symm))
    have g_b162 : n0 ≤ b162 := Nat.le_trans Z72 (Nat.le_of_eq gz162.symm)
    have Z170 : n0 ≤ h162.size := Nat.le_trans Z72 E162.1
    have V162 : Arv Z h162 b162 k162 .long (3 : Int32) [(.long (0 : Int64)), (.long (0 : Int64)), (.long (0 : Int64))] (.long (0 : Int64)) := (Arv.new A162 (by decide)).pad (pad_rep [] (.long (0 : Int64)) 3)
    have go171 : Go p e below s₁ F0 T162 (mkF m 59 #[vj q1, .second, vj q2, .second, vj q3, .second, vj q4, .second, vj q5, .second, vr b1, vr b17, vr b34, vi (0 : Int32), vi (1 : Int32), .unset, .unset] [(.ref b162)]) := fun t_ k_ => go161 t_ (st162 t_ k_)
    have go172 : Go p e below s₁ F0 T162 (mkF m 63 #[vj q1, .second, vj q2, .second, vj q3, .second, vj q4, .second, vj q5, .second, vr b1, vr b17, vr b34, vi (0 : Int32), vi (1 : Int32), .unset, .unset] [(.long q5), (.int (0 : Int32)), (.ref b162), (.ref b162)]) := by
      intro t_ k_
      refine go171 t_ ?_
      refine o_dup X162 hx (hb hby at_59) rfl ?_
      refine o_iconst X162 hx (hb hby at_60) (v := 0) rfl ?_
      refine o_lload X162 hx (hb hby at_61) rfl ?_
      exact k_
    obtain ⟨cl173, Ar173, q173, Sz173, Nn173, Hs173, G173⟩ := id V162
    have hin173 : ¬ ((0 : Int32) < 0 ∨ cl173.slots.size ≤ ((0 : Int32)).toNatClampNeg) := inb_of Sz173 ⟨by decide, by decide⟩
    obtain ⟨T173, h173, X173, e173, W173, st173⟩ := stJ X162 hx hZ e162 Ar173 (j := (0 : Int32)) hin173 (g := (mkF m 63 #[vj q1, .second, vj q2, .second, vj q3, .second, vj q4, .second, vj q5, .second, vr b1, vr b17, vr b34, vi (0 : Int32), vi (1 : Int32), .unset, .unset] [(.long q5), (.int (0 : Int32)), (.ref b162), (.ref b162)])) rfl rfl (hb hby at_63)
    have V173 : Arv Z h173 b162 k162 .long (3 : Int32) [(.long q5), (.long (0 : Int64)), (.long (0 : Int64))] (.long (0 : Int64)) := Arv.set Ar173 q173 Sz173 Nn173 Hs173 G173 rfl W173 0 rfl (Nat.le_of_ble_eq_true rfl)
    have Z174 : n0 ≤ h173.size := Nat.le_trans Z170 (Keep.of_wr W173).1
    have N173 := Fr.snoc X173 N71 g_b162
    have go175 : Go p e below s₁ F0 T173 (mkF m 64 #[vj q1, .second, vj q2, .second, vj q3, .second, vj q4, .second, vj q5, .second, vr b1, vr b17, vr b34, vi (0 : Int32), vi (1 : Int32), .unset, .unset] [(.ref b162)]) := fun t_ k_ => go172 t_ (st173 t_ k_)
    have go176 : Go p e below s₁ F0 T173 (mkF m 68 #[vj q1, .second, vj q2, .second, vj q3, .second, vj q4, .second, vj q5, .second, vr b1, vr b17, vr b34, vi (0 : Int32), vi (1 : Int32), .unset, .unset] [(.long q5), (.int (1 : Int32)), (.ref b162), (.ref b162)]) := by
      intro t_ k_
      refine go175 t_ ?_
      refine o_dup X173 hx (hb hby at_64) rfl ?_
      refine o_iconst X173 hx (hb hby at_65) (v := 1) rfl ?_
      refine o_lload X173 hx (hb hby at_66) rfl ?_
      exact k_
    obtain ⟨cl177, Ar177, q177, Sz177, Nn177, Hs177, G177⟩ := id V173
    have hin177 : ¬ ((1 : Int32) < 0 ∨ cl177.slots.size ≤ ((1 : Int32)).toNatClampNeg) := inb_of Sz177 ⟨by decide, by decide⟩
    obtain ⟨T177, h177, X177, e177, W177, st177⟩ := stJ X173 hx hZ e173 Ar177 (j := (1 : Int32)) hin177 (g := (mkF m 68 #[vj q1, .second, vj q2, .second, vj q3, .second, vj q4, .second, vj q5, .second, vr b1, vr b17, vr b34, vi (0 : Int32), vi (1 : Int32), .unset, .unset] [(.long q5), (.int (1 : Int32)), (.ref b162), (.ref b162)])) rfl rfl (hb hby at_68)
    have V177 : Arv Z h177 b162 k162 .long (3 : Int32) [(.long q5), (.long q5), (.long (0 : Int64))] (.long (0 : Int64)) := Arv.set Ar177 q177 Sz177 Nn177 Hs177 G177 rfl W177 1 rfl (Nat.le_of_ble_eq_true rfl)
    have Z178 : n0 ≤ h177.size := Nat.le_trans Z174 (Keep.of_wr W177).1
    have N177 := Fr.snoc X177 N173 g_b162
    have go179 : Go p e below s₁ F0 T177 (mkF m 69 #[vj q1, .second, vj q2, .second, vj q3, .second, vj q4, .second, vj q5, .second, vr b1, vr b17, vr b34, vi (0 : Int32), vi (1 : Int32), .unset, .unset] [(.ref b162)]) := fun t_ k_ => go176 t_ (st177 t_ k_)
    have go180 : Go p e below s₁ F0 T177 (mkF m 73 #[vj q1, .second, vj q2, .second, vj q3, .second, vj q4, .second, vj q5, .second, vr b1, vr b17, vr b34, vi (0 : Int32), vi (1 : Int32), .unset, .unset] [(.long q5), (.int (2 : Int32)), (.ref b162), (.ref b162)]) := by
      intro t_ k_
      refine go179 t_ ?_
      refine o_dup X177 hx (hb hby at_69) rfl ?_
      refine o_iconst X177 hx (hb hby at_70) (v := 2) rfl ?_
      refine o_lload X177 hx (hb hby at_71) rfl ?_
      exact k_
    obtain ⟨cl181, Ar181, q181, Sz181, Nn181, Hs181, G181⟩ := id V177
    have hin181 : ¬ ((2 : Int32) < 0 ∨ cl181.slots.size ≤ ((2 : Int32)).toNatClampNeg) := inb_of Sz181 ⟨by decide, by decide⟩
    obtain ⟨T181, h181, X181, e181, W181, st181⟩ := stJ X177 hx hZ e177 Ar181 (j := (2 : Int32)) hin181 (g := (mkF m 73 #[vj q1, .second, vj q2, .second, vj q3, .second, vj q4, .second, vj q5, .second, vr b1, vr b17, vr b34, vi (0 : Int32), vi (1 : Int32), .unset, .unset] [(.long q5), (.int (2 : Int32)), (.ref b162), (.ref b162)])) rfl rfl (hb hby at_73)
    have V181 : Arv Z h181 b162 k162 .long (3 : Int32) [(.long q5), (.long q5), (.long q5)] (.long (0 : Int64)) := Arv.set Ar181 q181 Sz181 Nn181 Hs181 G181 rfl W181 2 rfl (Nat.le_of_ble_eq_true rfl)
    have Z182 : n0 ≤ h181.size := Nat.le_trans Z178 (Keep.of_wr W181).1
    have N181 := Fr.snoc X181 N177 g_b162
    have go183 : Go p e below s₁ F0 T181 (mkF m 74 #[vj q1, .second, vj q2, .second, vj q3, .second, vj q4, .second, vj q5, .second, vr b1, vr b17, vr b34, vi (0 : Int32), vi (1 : Int32), .unset, .unset] [(.ref b162)]) := fun t_ k_ => go180 t_ (st181 t_ k_)
    have go184 : Go p e below s₁ F0 T181 (mkF m 77 #[vj q1, .second, vj q2, .second, vj q3, .second, vj q4, .second, vj q5, .second, vr b1, vr b17, vr b34, vi (0 : Int32), vi (1 : Int32), vr b162, .unset] [(.int (3 : Int32))]) := by
      intro t_ k_
      refine go183 t_ ?_
      refine o_astore X181 hx (hb hby at_74) rfl (L' := #[vj q1, .second, vj q2, .second, vj q3, .second, vj q4, .second, vj q5, .second, vr b1, vr b17, vr b34, vi (0 : Int32), vi (1 : Int32), vr b162, .unset]) rfl ?_
      refine o_iconst X181 hx (hb hby at_76) (v := 3) rfl ?_
      exact k_
    obtain ⟨T185, h185, k185, X185, e185, E185, A185, st185⟩ := newP X181 hx hZ (own_w hw 11 rfl) e181 (g := (mkF m 77 #[vj q1, .second, vj q2, .second, vj q3, .second, vj q4, .second, vj q5, .second, vr b1, vr b17, vr b34, vi (0 : Int32), vi (1 : Int32), vr b162, .unset] [(.int (3 : Int32))])) rfl (hb hby at_77) rfl (by decide) (cap := 3) (by decide) (by decide) (by decide) (by decide)
    obtain ⟨b185, gz185⟩ : ∃ z, z = h181.size := ⟨_, rfl⟩
    rw [← gz185] at A185 st185
    have F186 : Exa Z h181 b1 c_0 := ((((F163.ext E162).wr W173).wr W177).wr W181)
    have ne187 : b1 ≠ b185 := Nat.ne_of_lt (Nat.lt_of_lt_of_le F186.lt (Nat.le_of_eq gz185.symm))
    have F188 : Arv Z h181 bw_10 kw_10 .long (32 : Int32) ((.long q1) :: (.long q2) :: (.long w0_71) :: (.long w1_71) :: own_zl 28) (.long (0 : Int64)) := ((((Vw_71.ext E162).other W173 ne165).other W177 ne165).other W181 ne165)
    have ne189 : bw_10 ≠ b185 := Nat.ne_of_lt (Nat.lt_of_lt_of_le F188.lt (Nat.le_of_eq gz185.symm))
    have F190 : Arv Z h181 b17 k17 .long (2 : Int32) [(.long q1), (.long q2)] (.long (0 : Int64)) := ((((F166.ext E162).other W173 ne167).other W177 ne167).other W181 ne167)
    have ne191 : b17 ≠ b185 := Nat.ne_of_lt (Nat.lt_of_lt_of_le F190.lt (Nat.le_of_eq gz185.symm))
    have F192 : Arv Z h181 b34 k34 .long (2 : Int32) [(.long q3), (.long q4)] (.long (0 : Int64)) := ((((F168.ext E162).other W173 ne169).other W177 ne169).other W181 ne169)
    have ne193 : b34 ≠ b185 := Nat.ne_of_lt (Nat.lt_of_lt_of_le F192.lt (Nat.le_of_eq gz185.symm))
    have ne194 : b162 ≠ b185 := Nat.ne_of_lt (Nat.lt_of_lt_of_le V181.lt (Nat.le_of_eq gz185.symm))
    have g_b185 : n0 ≤ b185 := Nat.le_trans Z182 (Nat.le_of_eq gz185.symm)
    have Z195 : n0 ≤ h185.size := Nat.le_trans Z182 E185.1
    have V185 : Arv Z h185 b185 k185 .long (3 : Int32) [(.long (0 : Int64)), (.long (0 : Int64)), (.long (0 : Int64))] (.long (0 : Int64)) := (Arv.new A185 (by decide)).pad (pad_rep [] (.long (0 : Int64)) 3)
    have go196 : Go p e below s₁ F0 T185 (mkF m 79 #[vj q1, .second, vj q2, .second, vj q3, .second, vj q4, .second, vj q5, .second, vr b1, vr b17, vr b34, vi (0 : Int32), vi (1 : Int32), vr b162, .unset] [(.ref b185)]) := fun t_ k_ => go184 t_ (st185 t_ k_)
    have go197 : Go p e below s₁ F0 T185 (mkF m 83 #[vj q1, .second, vj q2, .second, vj q3, .second, vj q4, .second, vj q5, .second, vr b1, vr b17, vr b34, vi (0 : Int32), vi (1 : Int32), vr b162, .unset] [(.long q5), (.int (0 : Int32)), (.ref b185), (.ref b185)]) := by
      intro t_ k_
      refine go196 t_ ?_
      refine o_dup X185 hx (hb hby at_79) rfl ?_
      refine o_iconst X185 hx (hb hby at_80) (v := 0) rfl ?_
      refine o_lload X185 hx (hb hby at_81) rfl ?_
      exact k_
    obtain ⟨cl198, Ar198, q198, Sz198, Nn198, Hs198, G198⟩ := id V185
    have hin198 : ¬ ((0 : Int32) < 0 ∨ cl198.slots.size ≤ ((0 : Int32)).toNatClampNeg) := inb_of Sz198 ⟨by decide, by decide⟩
    obtain ⟨T198, h198, X198, e198, W198, st198⟩ := stJ X185 hx hZ e185 Ar198 (j := (0 : Int32)) hin198 (g := (mkF m 83 #[vj q1, .second, vj q2, .second, vj q3, .second, vj q4, .second, vj q5, .second, vr b1, vr b17, vr b34, vi (0 : Int32), vi (1 : Int32), vr b162, .unset] [(.long q5), (.int (0 : Int32)), (.ref b185), (.ref b185)])) rfl rfl (hb hby at_83)
    have V198 : Arv Z h198 b185 k185 .long (3 : Int32) [(.long q5), (.long (0 : Int64)), (.long (0 : Int64))] (.long (0 : Int64)) := Arv.set Ar198 q198 Sz198 Nn198 Hs198 G198 rfl W198 0 rfl (Nat.le_of_ble_eq_true rfl)
    have Z199 : n0 ≤ h198.size := Nat.le_trans Z195 (Keep.of_wr W198).1
    have N198 := Fr.snoc X198 N181 g_b185
    have go200 : Go p e below s₁ F0 T198 (mkF m 84 #[vj q1, .second, vj q2, .second, vj q3, .second, vj q4, .second, vj q5, .second, vr b1, vr b17, vr b34, vi (0 : Int32), vi (1 : Int32), vr b162, .unset] [(.ref b185)]) := fun t_ k_ => go197 t_ (st198 t_ k_)
    have go201 : Go p e below s₁ F0 T198 (mkF m 88 #[vj q1, .second, vj q2, .second, vj q3, .second, vj q4, .second, vj q5, .second, vr b1, vr b17, vr b34, vi (0 : Int32), vi (1 : Int32), vr b162, .unset] [(.long q5), (.int (1 : Int32)), (.ref b185), (.ref b185)]) := by
      intro t_ k_
      refine go200 t_ ?_
      refine o_dup X198 hx (hb hby at_84) rfl ?_
      refine o_iconst X198 hx (hb hby at_85) (v := 1) rfl ?_
      refine o_lload X198 hx (hb hby at_86) rfl ?_
      exact k_
    obtain ⟨cl202, Ar202, q202, Sz202, Nn202, Hs202, G202⟩ := id V198
    have hin202 : ¬ ((1 : Int32) < 0 ∨ cl202.slots.size ≤ ((1 : Int32)).toNatClampNeg) := inb_of Sz202 ⟨by decide, by decide⟩
    obtain ⟨T202, h202, X202, e202, W202, st202⟩ := stJ X198 hx hZ e198 Ar202 (j := (1 : Int32)) hin202 (g := (mkF m 88 #[vj q1, .second, vj q2, .second, vj q3, .second, vj q4, .second, vj q5, .second, vr b1, vr b17, vr b34, vi (0 : Int32), vi (1 : Int32), vr b162, .unset] [(.long q5), (.int (1 : Int32)), (.ref b185), (.ref b185)])) rfl rfl (hb hby at_88)
    have V202 : Arv Z h202 b185 k185 .long (3 : Int32) [(.long q5), (.long q5), (.long (0 : Int64))] (.long (0 : Int64)) := Arv.set Ar202 q202 Sz202 Nn202 Hs202 G202 rfl W202 1 rfl (Nat.le_of_ble_eq_true rfl)
    have Z203 : n0 ≤ h202.size := Nat.le_trans Z199 (Keep.of_wr W202).1
    have N202 := Fr.snoc X202 N198 g_b185
    have go204 : Go p e below s₁ F0 T202 (mkF m 89 #[vj q1, .second, vj q2, .second, vj q3, .second, vj q4, .second, vj q5, .second, vr b1, vr b17, vr b34, vi (0 : Int32), vi (1 : Int32), vr b162, .unset] [(.ref b185)]) := fun t_ k_ => go201 t_ (st202 t_ k_)
    have go205 : Go p e below s₁ F0 T202 (mkF m 93 #[vj q1, .second, vj q2, .second, vj q3, .second, vj q4, .second, vj q5, .second, vr b1, vr b17, vr b34, vi (0 : Int32), vi (1 : Int32), vr b162, .unset] [(.long q5), (.int (2 : Int32)), (.ref b185), (.ref b185)]) := by
      intro t_ k_
      refine go204 t_ ?_
      refine o_dup X202 hx (hb hby at_89) rfl ?_
      refine o_iconst X202 hx (hb hby at_90) (v := 2) rfl ?_
      refine o_lload X202 hx (hb hby at_91) rfl ?_
      exact k_
    obtain ⟨cl206, Ar206, q206, Sz206, Nn206, Hs206, G206⟩ := id V202
    have hin206 : ¬ ((2 : Int32) < 0 ∨ cl206.slots.size ≤ ((2 : Int32)).toNatClampNeg) := inb_of Sz206 ⟨by decide, by decide⟩
    obtain ⟨T206, h206, X206, e206, W206, st206⟩ := stJ X202 hx hZ e202 Ar206 (j := (2 : Int32)) hin206 (g := (mkF m 93 #[vj q1, .second, vj q2, .second, vj q3, .second, vj q4, .second, vj q5, .second, vr b1, vr b17, vr b34, vi (0 : Int32), vi (1 : Int32), vr b162, .unset] [(.long q5), (.int (2 : Int32)), (.ref b185), (.ref b185)])) rfl rfl (hb hby at_93)
    have V206 : Arv Z h206 b185 k185 .long (3 : Int32) [(.long q5), (.long q5), (.long q5)] (.long (0 : Int64)) := Arv.set Ar206 q206 Sz206 Nn206 Hs206 G206 rfl W206 2 rfl (Nat.le_of_ble_eq_true rfl)
    have Z207 : n0 ≤ h206.size := Nat.le_trans Z203 (Keep.of_wr W206).1
    have N206 := Fr.snoc X206 N202 g_b185
    have go208 : Go p e below s₁ F0 T206 (mkF m 94 #[vj q1, .second, vj q2, .second, vj q3, .second, vj q4, .second, vj q5, .second, vr b1, vr b17, vr b34, vi (0 : Int32), vi (1 : Int32), vr b162, .unset] [(.ref b185)]) := fun t_ k_ => go205 t_ (st206 t_ k_)
    have F209 : Fld Z h206 b1 c_0 "width" "I" (.int (2 : Int32)) := ((((((((Fwi_71.ext E162).other W173 (Or.inl ne164)).other W177 (Or.inl ne164)).other W181 (Or.inl ne164)).ext E185).other W198 (Or.inl ne187)).other W202 (Or.inl ne187)).other W206 (Or.inl ne187))
    have F210 : Fld Z h206 b1 c_0 "words" "[J" (.ref bw_10) := ((((((((Fwo_71.ext E162).other W173 (Or.inl ne164)).other W177 (Or.inl ne164)).other W181 (Or.inl ne164)).ext E185).other W198 (Or.inl ne187)).other W202 (Or.inl ne187)).other W206 (Or.inl ne187))
    have F211 : Arv Z h206 bw_10 kw_10 .long (32 : Int32) ((.long q1) :: (.long q2) :: (.long w0_71) :: (.long w1_71) :: own_zl 28) (.long (0 : Int64)) := ((((F188.ext E185).other W198 ne189).other W202 ne189).other W206 ne189)
    have F212 : Arv Z h206 b162 k162 .long (3 : Int32) [(.long q5), (.long q5), (.long q5)] (.long (0 : Int64)) := ((((V181.ext E185).other W198 ne194).other W202 ne194).other W206 ne194)
    have go213 : Go p e below s₁ F0 T206 (mkF m 102 #[vj q1, .second, vj q2, .second, vj q3, .second, vj q4, .second, vj q5, .second, vr b1, vr b17, vr b34, vi (0 : Int32), vi (1 : Int32), vr b162, vr b185] [(.ref b162), (.int (0 : Int32)), (.ref b1)]) := by
      intro t_ k_
      refine go208 t_ ?_
      refine o_astore X206 hx (hb hby at_94) rfl (L' := #[vj q1, .second, vj q2, .second, vj q3, .second, vj q4, .second, vj q5, .second, vr b1, vr b17, vr b34, vi (0 : Int32), vi (1 : Int32), vr b162, vr b185]) rfl ?_
      refine o_aload X206 hx (hb hby at_96) rfl rfl ?_
      refine o_iload X206 hx (hb hby at_98) rfl ?_
      refine o_aload X206 hx (hb hby at_100) rfl rfl ?_
      exact k_
    have F215 : Exa Z h206 b1 c_0 := ((((F186.ext E185).wr W198).wr W202).wr W206)
    obtain ⟨cq214, kq214, q214a, q214b, q214c⟩ := isOf hZ e206 F215
    obtain ⟨_, _, ⟨T214, L214, k214, n214⟩, -, X214, ⟨Lc214, hQ214, l214, y214, z214⟩, st214⟩ := X206.virtualBack hx (y := y_6) (z := y_6) hown (mvT hZ (own_w hw 42 rfl)) (mvT hZ (own_w hw 43 rfl)) (notFace_of_selects (args := #[]) (mvT hZ (own_w hw 45 rfl))) (mvT hZ (own_w hw 45 rfl)) (mvT hZ (own_w hw 44 rfl)) (by decide) (backOf (W := 0) (rm7_0 l Z a0 hw [] b1 b162 bw_10 kw_10 k162 q1 q2 w0_71 w1_71 q5 q5 q5 h206 n0 Z207 F209 F210 F211 F212 g_b162) hZ (own_w hw 46 rfl) (own_w hw 2 rfl) (by decide) (by decide)) q214a q214c (g := (mkF m 102 #[vj q1, .second, vj q2, .second, vj q3, .second, vj q4, .second, vj q5, .second, vr b1, vr b17, vr b34, vi (0 : Int32), vi (1 : Int32), vr b162, vr b185] [(.ref b162), (.int (0 : Int32)), (.ref b1)])) rfl (by rw [hml]; rfl) (Steps.refl _) (argsL := [(.int (0 : Int32)), (.ref b162)]) (rest := []) (lenOf pd0_2 rfl) rfl (by show 2 * 0 + _ ≤ _; exact Nat.le_of_eq rfl) (hb hby at_102) (fun _ _ => ⟨rfl, e206, (by decide : 8 + 0 ≤ _), (by decide : 95 + 0 ≤ _)⟩)
    dsimp only [Pt.U, Pt.locs, Pt.cells, Pt.slots] at X214 l214 y214 z214 st214 hQ214
    subst l214 y214 z214
    obtain ⟨rfl, Nq214, Kc214, V3_214⟩ := hQ214
    have N214 := Fr.app N206 Nq214
    have Z216 : n0 ≤ T214.heap.size := Nat.le_trans Z207 Kc214.1
    have go217 : Go p e below s₁ F0 T214 (mkF m 105 #[vj q1, .second, vj q2, .second, vj q3, .second, vj q4, .second, vj q5, .second, vr b1, vr b17, vr b34, vi (0 : Int32), vi (1 : Int32), vr b162, vr b185] []) := fun t_ k_ => go213 t_ (st214.trans k_)
    have F218 : Fld Z T214.heap b1 c_0 "width" "I" (.int (2 : Int32)) := (F209.keep Kc214 (ninS ne164 nin0))
    have F219 : Fld Z T214.heap b1 c_0 "words" "[J" (.ref bw_10) := (F210.keep Kc214 (ninS ne164 nin0))
    have F220 : Arv Z T214.heap bw_10 kw_10 .long (32 : Int32) ((.long q1) :: (.long q2) :: (.long w0_71) :: (.long w1_71) :: own_zl 28) (.long (0 : Int64)) := (F211.keep Kc214 (ninS ne165 nin0))
    have F221 : Arv Z T214.heap b185 k185 .long (3 : Int32) [(.long q5), (.long q5), (.long q5)] (.long (0 : Int64)) := (V206.keep Kc214 (ninS (Ne.symm ne194) nin0))
    have go222 : Go p e below s₁ F0 T214 (mkF m 111 #[vj q1, .second, vj q2, .second, vj q3, .second, vj q4, .second, vj q5, .second, vr b1, vr b17, vr b34, vi (0 : Int32), vi (1 : Int32), vr b162, vr b185] [(.ref b185), (.int (1 : Int32)), (.ref b1)]) := by
      intro t_ k_
      refine go217 t_ ?_
      refine o_aload X214 hx (hb hby at_105) rfl rfl ?_
      refine o_iload X214 hx (hb hby at_107) rfl ?_
      refine o_aload X214 hx (hb hby at_109) rfl rfl ?_
      exact k_
    have F224 : Exa Z T214.heap b1 c_0 := (F215.keep Kc214)
    obtain ⟨cq223, kq223, q223a, q223b, q223c⟩ := isOf hZ rfl F224
    obtain ⟨_, _, ⟨T223, L223, k223, n223⟩, -, X223, ⟨Lc223, hQ223, l223, y223, z223⟩, st223⟩ := X214.virtualBack hx (y := y_6) (z := y_6) hown (mvT hZ (own_w hw 42 rfl)) (mvT hZ (own_w hw 43 rfl)) (notFace_of_selects (args := #[]) (mvT hZ (own_w hw 45 rfl))) (mvT hZ (own_w hw 45 rfl)) (mvT hZ (own_w hw 44 rfl)) (by decide) (backOf (W := 0) (rm7_1 l Z a0 hw [] b1 b185 bw_10 kw_10 k185 q1 q2 w0_71 w1_71 q5 q5 q5 (T214.heap) n0 Z216 F218 F219 F220 F221 g_b185) hZ (own_w hw 46 rfl) (own_w hw 2 rfl) (by decide) (by decide)) q223a q223c (g := (mkF m 111 #[vj q1, .second, vj q2, .second, vj q3, .second, vj q4, .second, vj q5, .second, vr b1, vr b17, vr b34, vi (0 : Int32), vi (1 : Int32), vr b162, vr b185] [(.ref b185), (.int (1 : Int32)), (.ref b1)])) rfl (by rw [hml]; rfl) (Steps.refl _) (argsL := [(.int (1 : Int32)), (.ref b185)]) (rest := []) (lenOf pd0_2 rfl) rfl (by show 2 * 0 + _ ≤ _; exact Nat.le_of_eq rfl) (hb hby at_111) (fun _ _ => ⟨rfl, rfl, (by decide : 8 + 0 ≤ _), (by decide : 95 + 0 ≤ _)⟩)
    dsimp only [Pt.U, Pt.locs, Pt.cells, Pt.slots] at X223 l223 y223 z223 st223 hQ223
    subst l223 y223 z223
    obtain ⟨rfl, Nq223, Kc223, V3_223⟩ := hQ223
    have N223 := Fr.app N214 Nq223
    have Z225 : n0 ≤ T223.heap.size := Nat.le_trans Z216 Kc223.1
    have go226 : Go p e below s₁ F0 T223 (mkF m 114 #[vj q1, .second, vj q2, .second, vj q3, .second, vj q4, .second, vj q5, .second, vr b1, vr b17, vr b34, vi (0 : Int32), vi (1 : Int32), vr b162, vr b185] []) := fun t_ k_ => go222 t_ (st223.trans k_)
    have F227 : Arv Z T223.heap b162 k162 .long (3 : Int32) [(.long q1), (.long q2), (.long q5)] (.long (0 : Int64)) := (V3_214.keep Kc223 (ninS ne194 nin0))
    have go228 : Go p e below s₁ F0 T223 (mkF m 117 #[vj q1, .second, vj q2, .second, vj q3, .second, vj q4, .second, vj q5, .second, vr b1, vr b17, vr b34, vi (0 : Int32), vi (1 : Int32), vr b162, vr b185] [(.int (0 : Int32)), (.ref b162)]) := by
      intro t_ k_
      refine go226 t_ ?_
      refine o_aload X223 hx (hb hby at_114) rfl rfl ?_
      refine o_iconst X223 hx (hb hby at_116) (v := 0) rfl ?_
      exact k_
    obtain ⟨cl229, Ar229, -, Sz229, Nn229, Hs229, -⟩ := id F227
    have hin229 : ¬ ((0 : Int32) < 0 ∨ cl229.slots.size ≤ ((0 : Int32)).toNatClampNeg) := inb_of Sz229 ⟨by decide, by decide⟩
    have hat229 : cl229.slots[((0 : Int32)).toNatClampNeg]? = some (.long q1) := Hs229.at hin229 rfl
    have go230 : Go p e below s₁ F0 T223 (mkF m 126 #[vj q1, .second, vj q2, .second, vj q3, .second, vj q4, .second, vj q5, .second, vr b1, vr b17, vr b34, vi (0 : Int32), vi (1 : Int32), vr b162, vr b185] [(.int (1 : Int32)), (.ref b162)]) := by
      intro t_ k_
      refine go228 t_ ?_
      refine o_laload X223 hx hZ rfl Ar229 hin229 hat229 (hb hby at_117) ?_
      refine o_lloadN X223 hx (hb hby at_118) rfl ?_
      refine o_lcmp X223 hx (hb hby at_119) ?_
      refine o_ifNo X223 hx (hb hby at_120) ((if0 _ _).trans (teq ((lw_eq _ _).mpr (rfl : q1 = q1))).2) ?_
      refine o_aload X223 hx (hb hby at_123) rfl rfl ?_
      refine o_iconst X223 hx (hb hby at_125) (v := 1) rfl ?_
      exact k_
    obtain ⟨cl231, Ar231, -, Sz231, Nn231, Hs231, -⟩ := id F227
    have hin231 : ¬ ((1 : Int32) < 0 ∨ cl231.slots.size ≤ ((1 : Int32)).toNatClampNeg) := inb_of Sz231 ⟨by decide, by decide⟩
    have hat231 : cl231.slots[((1 : Int32)).toNatClampNeg]? = some (.long q2) := Hs231.at hin231 rfl
    have go232 : Go p e below s₁ F0 T223 (mkF m 135 #[vj q1, .second, vj q2, .second, vj q3, .second, vj q4, .second, vj q5, .second, vr b1, vr b17, vr b34, vi (0 : Int32), vi (1 : Int32), vr b162, vr b185] [(.int (2 : Int32)), (.ref b162)]) := by
      intro t_ k_
      refine go230 t_ ?_
      refine o_laload X223 hx hZ rfl Ar231 hin231 hat231 (hb hby at_126) ?_
      refine o_lloadN X223 hx (hb hby at_127) rfl ?_
      refine o_lcmp X223 hx (hb hby at_128) ?_
      refine o_ifNo X223 hx (hb hby at_129) ((if0 _ _).trans (teq ((lw_eq _ _).mpr (rfl : q2 = q2))).2) ?_
      refine o_aload X223 hx (hb hby at_132) rfl rfl ?_
      refine o_iconst X223 hx (hb hby at_134) (v := 2) rfl ?_
      exact k_
    obtain ⟨cl233, Ar233, -, Sz233, Nn233, Hs233, -⟩ := id F227
    have hin233 : ¬ ((2 : Int32) < 0 ∨ cl233.slots.size ≤ ((2 : Int32)).toNatClampNeg) := inb_of Sz233 ⟨by decide, by decide⟩
    have hat233 : cl233.slots[((2 : Int32)).toNatClampNeg]? = some (.long q5) := Hs233.at hin233 rfl
    have go234 : Go p e below s₁ F0 T223 (mkF m 145 #[vj q1, .second, vj q2, .second, vj q3, .second, vj q4, .second, vj q5, .second, vr b1, vr b17, vr b34, vi (0 : Int32), vi (1 : Int32), vr b162, vr b185] [(.int (0 : Int32)), (.ref b185)]) := by
      intro t_ k_
      refine go232 t_ ?_
      refine o_laload X223 hx hZ rfl Ar233 hin233 hat233 (hb hby at_135) ?_
      refine o_lload X223 hx (hb hby at_136) rfl ?_
      refine o_lcmp X223 hx (hb hby at_138) ?_
      refine o_ifNo X223 hx (hb hby at_139) ((if0 _ _).trans (teq ((lw_eq _ _).mpr (rfl : q5 = q5))).2) ?_
      refine o_aload X223 hx (hb hby at_142) rfl rfl ?_
      refine o_iconst X223 hx (hb hby at_144) (v := 0) rfl ?_
      exact k_
    obtain ⟨cl235, Ar235, -, Sz235, Nn235, Hs235, -⟩ := id V3_223
    have hin235 : ¬ ((0 : Int32) < 0 ∨ cl235.slots.size ≤ ((0 : Int32)).toNatClampNeg) := inb_of Sz235 ⟨by decide, by decide⟩
    have hat235 : cl235.slots[((0 : Int32)).toNatClampNeg]? = some (.long w0_71) := Hs235.at hin235 rfl
    have go237 : Go p e below s₁ F0 T223 (mkF m 149 #[vj q1, .second, vj q2, .second, vj q3, .second, vj q4, .second, vj q5, .second, vr b1, vr b17, vr b34, vi (0 : Int32), vi (1 : Int32), vr b162, vr b185] [(.int (lcmpW w0_71 q3))]) := by
      intro t_ k_
      refine go234 t_ ?_
      refine o_laload X223 hx hZ rfl Ar235 hin235 hat235 (hb hby at_145) ?_
      refine o_lload X223 hx (hb hby at_146) rfl ?_
      refine o_lcmp X223 hx (hb hby at_148) ?_
      exact k_
    have hd236 : w0_71 = q3 := (own_r hP_71 hcs74).2.1
    have go238 : Go p e below s₁ F0 T223 (mkF m 155 #[vj q1, .second, vj q2, .second, vj q3, .second, vj q4, .second, vj q5, .second, vr b1, vr b17, vr b34, vi (0 : Int32), vi (1 : Int32), vr b162, vr b185] [(.int (1 : Int32)), (.ref b185)]) := by
      intro t_ k_
      refine go237 t_ ?_
      refine o_ifNo X223 hx (hb hby at_149) ((if0 _ _).trans (teq ((lw_eq _ _).mpr hd236)).2) ?_
      refine o_aload X223 hx (hb hby at_152) rfl rfl ?_
      refine o_iconst X223 hx (hb hby at_154) (v := 1) rfl ?_
      exact k_
    obtain ⟨cl239, Ar239, -, Sz239, Nn239, Hs239, -⟩ := id V3_223
    have hin239 : ¬ ((1 : Int32) < 0 ∨ cl239.slots.size ≤ ((1 : Int32)).toNatClampNeg) := inb_of Sz239 ⟨by decide, by decide⟩
    have hat239 : cl239.slots[((1 : Int32)).toNatClampNeg]? = some (.long w1_71) := Hs239.at hin239 rfl
    have go241 : Go p e below s₁ F0 T223 (mkF m 159 #[vj q1, .second, vj q2, .second, vj q3, .second, vj q4, .second, vj q5, .second, vr b1, vr b17, vr b34, vi (0 : Int32), vi (1 : Int32), vr b162, vr b185] [(.int (lcmpW w1_71 q4))]) := by
      intro t_ k_
      refine go238 t_ ?_
      refine o_laload X223 hx hZ rfl Ar239 hin239 hat239 (hb hby at_155) ?_
      refine o_lload X223 hx (hb hby at_156) rfl ?_
      refine o_lcmp X223 hx (hb hby at_158) ?_
      exact k_
    have hd240 : w1_71 = q4 := (own_r hP_71 hcs74).2.2
    have go242 : Go p e below s₁ F0 T223 (mkF m 165 #[vj q1, .second, vj q2, .second, vj q3, .second, vj q4, .second, vj q5, .second, vr b1, vr b17, vr b34, vi (0 : Int32), vi (1 : Int32), vr b162, vr b185] [(.int (2 : Int32)), (.ref b185)]) := by
      intro t_ k_
      refine go241 t_ ?_
      refine o_ifNo X223 hx (hb hby at_159) ((if0 _ _).trans (teq ((lw_eq _ _).mpr hd240)).2) ?_
      refine o_aload X223 hx (hb hby at_162) rfl rfl ?_
      refine o_iconst X223 hx (hb hby at_164) (v := 2) rfl ?_
      exact k_
    obtain ⟨cl243, Ar243, -, Sz243, Nn243, Hs243, -⟩ := id V3_223
    have hin243 : ¬ ((2 : Int32) < 0 ∨ cl243.slots.size ≤ ((2 : Int32)).toNatClampNeg) := inb_of Sz243 ⟨by decide, by decide⟩
    have hat243 : cl243.slots[((2 : Int32)).toNatClampNeg]? = some (.long q5) := Hs243.at hin243 rfl
    have go244 : Go p e below s₁ F0 T223 (mkF m 177 #[vj q1, .second, vj q2, .second, vj q3, .second, vj q4, .second, vj q5, .second, vr b1, vr b17, vr b34, vi (0 : Int32), vi (1 : Int32), vr b162, vr b185] [(.int (1 : Int32))]) := by
      intro t_ k_
      refine go242 t_ ?_
      refine o_laload X223 hx hZ rfl Ar243 hin243 hat243 (hb hby at_165) ?_
      refine o_lload X223 hx (hb hby at_166) rfl ?_
      refine o_lcmp X223 hx (hb hby at_168) ?_
      refine o_ifNo X223 hx (hb hby at_169) ((if0 _ _).trans (teq ((lw_eq _ _).mpr (rfl : q5 = q5))).2) ?_
      refine o_iconst X223 hx (hb hby at_172) (v := 1) rfl ?_
      refine o_goto X223 hx (hb hby at_173) (pc' := 177) rfl (by decide) ?_
      exact k_
    obtain ⟨fs, hr, hrun, hended, hW, hsame⟩ := X223.leave (v := some (.int (1 : Int32))) (fun h => by rw [Bd.returns] at h; cases h)
    refine ⟨_, _, pre0 _ (go244 _ ?_), hrun, hended, _, _, rfl, ?_, ⟨_, rfl⟩, hW, hsame.mono (by decide) (by decide)⟩
    · skip
      exact retN X223 hx (t := .boolean) Bd.returns (by simp) (hb hby at_177) hr
    · show Q0 Z q1 q2 q3 q4 q5 h0 n0 _ T223.heap _
      exact ⟨rfl, N223⟩

set_option maxRecDepth 65536 in
set_option maxHeartbeats 40000000 in
theorem comes_1 {Post : Tables → Env → Array Value → State → Outcome → State → Prop} (hpost : ∀ tb e args s v u, (limb_1_1.after args s (.returned v) u = true ∧ limb_1_2.after args s (.returned v) u = true ∧ True) → FrameEnd s (.returned v) u (Jvm.fieldLocs frame_1_writes args s ++ Jvm.arrayLocs frame_1_arrays args s ++ Jvm.staticLocs frame_1_statics s) 24 256 → Post tb e args s (.returned v) u) :
    ArmFor flags0 classFile x code maxLocals ret World_1 tables_1 room_1 Calls_1 rest_1 Pre_1 Post := by
  intro l hfl _ _ p e ha hc hk s m args below hf hA hF happ hP
  obtain ⟨hcalls, hrest, hpre⟩ := hP
  obtain ⟨-, -, -, hnamed, -, -, -, hat⟩ := (Spec.applies_iff hf).mp happ
  obtain ⟨hg, hn⟩ := and_e (Cond.before_iff.mp (show (Jvm.Cond.and given_1 narrow_1).before args s = true from hpre))
  obtain ⟨g1, g2⟩ := and_e hg
  obtain ⟨g3, g4⟩ := and_e g2
  obtain ⟨g5, g6⟩ := and_e g4
  obtain ⟨g7, g8⟩ := and_e g6
  obtain ⟨g9, g10⟩ := and_e g8
  obtain ⟨w0, w1, w2, w3, w4, rfl⟩ : ∃ w0 w1 w2 w3 w4 : Value, args = #[w0, w1, w2, w3, w4] := by
    have hs : args.size = 5 := by simpa [Cond.value, given_1] using g1
    obtain ⟨L⟩ := args
    match L, hs with
    | [w0, w1, w2, w3, w4], _ => exact ⟨w0, w1, w2, w3, w4, rfl⟩
  have hw := fun d (hd : d ∈ tables_1) => atoms_spec (ws := Jvm.Cond.code x code maxLocals ret :: tables_1) hat d (List.mem_cons_of_mem _ hd)
  have hfit : Fit s := fun {y c} hc i hi => by
    obtain ⟨ha, rfl⟩ := Array.getElem?_eq_some_iff.mp hc
    have q := List.all_eq_true.mp ((Array.all_eq_true_iff_forall_mem.mp hF) _ (Array.getElem_mem ha)) i (List.mem_range.mpr hi)
    simpa [Array.getElem?_eq_getElem hi] using q
  obtain ⟨i0, ei0⟩ := isL_v g3
  obtain rfl : w0 = (.long i0) := Option.some.inj ei0
  obtain ⟨i1, ei1⟩ := isL_v g5
  obtain rfl : w1 = (.long i1) := Option.some.inj ei1
  obtain ⟨i2, ei2⟩ := isL_v g7
  obtain rfl : w2 = (.long i2) := Option.some.inj ei2
  obtain ⟨i3, ei3⟩ := isL_v g9
  obtain rfl : w3 = (.long i3) := Option.some.inj ei3
  obtain ⟨i4, ei4⟩ := isL_v g10
  obtain rfl : w4 = (.long i4) := Option.some.inj ei4
  obtain ⟨n, o, h1, h2, h3, _, L, rfl, ⟨rfl, N⟩, hq⟩ := rm0 l s _ hw tables_1 i0 i1 i2 i3 i4  s.heap s.heap.size (Nat.le_refl _)  p e ha hc hk s m _ below hf ((Spec.applies_iff_loose hf).mp happ).1 ⟨rfl, State.Warmed39.refl s, rfl⟩ trivial
  refine ⟨n, _, h1, h2, h3, hpost _ _ _ _ _ _ ⟨Cond.after_iff.mpr rfl, Cond.after_iff.mpr (eq_i res_at (Term.int_eval (1)) rfl), trivial⟩ ⟨hq.1, hq.2.1, (hq.2.2.sift fun y hy => Or.inr (N y hy)).mono (by decide) (by decide)⟩⟩
theorem main_1_1 : Claimed_1_1 := comes_1 fun _ _ _ _ _ _ h hF => ⟨h.1, hF⟩
theorem main_1_2 : Claimed_1_2 := comes_1 fun _ _ _ _ _ _ h hF => ⟨h.2.1, hF⟩
end Jvm.Pilot.@@N@@
namespace Jvm.Pilot.@@N@@
open Jvm Jvm.ClassFile Sem Op Lib Jvm.Free Jvm.Stand Jvm.Pilot.@@N@@.Jvm.D
/-! MADE BY PROGRAM (witnessworld.py) out of the Statement's table words and the real class files: 17 classes; the members and pool entries that the words name. The judged class is class 1, her method 1. -/
namespace start1
open Jvm.ClassFile
def u (s : String) : CpInfo := .utf8 (stringToUtf16 s)
/-- a pool by its gaps: so many unusable entries, then the entry; so many at the end -/
def gap : Nat → List CpInfo → List CpInfo
  | 0, r => r
  | n + 1, r => .unusable :: gap n r
def poolList (es : List (Nat × CpInfo)) (last : Nat) : List CpInfo := es.foldr (fun e r => gap e.1 (e.2 :: r)) (gap last [])
def pool (es : List (Nat × CpInfo)) (last : Nat) : Array CpInfo := ⟨poolList es last⟩
def fileOf (pool : Array CpInfo) (this : Nat) (attrs : Array Attribute := #[]) (ms : Array MethodInfo := #[]) (fl : Nat := 33) (sup : Nat := 0) (ifs : Array Nat := #[]) (fds : Array FieldInfo := #[]) : ClassFile where
  minorVersion := 0
  majorVersion := 65
  constantPool := pool
  accessFlags := fl
  thisClass := this
  superClass := sup
  interfaces := ifs
  fields := fds
  methods := ms
  attributes := attrs
def plain (name : String) (sup : Option ClassId) : Class where
  name := name
  kind := .ordinary
  loader := none
  accessFlags := 33
  super := sup
  interfaces := #[]
  cf := none
  fields := #[]
  methods := #[]
  instanceTypes := #[]
  staticTypes := #[]
  resolved := #[]
  callSites := []
  init := .initialized
  statics := none
  mirror := none

def pool0 : Array CpInfo := pool [(5, u "<init>"), (0, u "()V"), (1, .class_ 10), (1, u "java/lang/Object")] 113

def k0c0 : Code := { maxStack := 0, maxLocals := 1, code := object_method_1_code, exceptionTable := #[], attributes := #[] }
def k0m0 : Method := { name := "<init>", desc := "()V", sig := { parameters := [], returnType := none }, accessFlags := 1, code := some k0c0 }
/-- java/lang/Object -/
def k0 : Class := { plain "java/lang/Object" none with
  accessFlags := 33
  interfaces := #[]
  cf := some (fileOf pool0 8 #[] #[{ accessFlags := 1, nameIndex := 5, descriptorIndex := 6, attributes := #[] }] 33 0 #[] #[])
  fields := #[]
  methods := #[k0m0]
  instanceTypes := #[]
  staticTypes := #[]
  resolved := Array.replicate 124 none
  statics := none }

def pool1 : Array CpInfo := pool [(2, .class_ 4), (1, u "java/lang/Object"), (0, u "<init>"), (0, u "()V"), (0, .class_ 8), (0, u "com/example/grammar_game_solver/grammargamesolver/summary/NumberedSets"), (0, .methodref 7 10), (0, .nameAndType 5 11), (0, u "(I)V"), (0, .methodref 7 13), (0, .nameAndType 14 15), (0, u "numberOf"), (0, u "([J)I"), (0, .methodref 7 17), (0, .nameAndType 18 19), (0, u "copy"), (0, u "(I[J)V"), (0, .class_ 21), (0, u "com/example/grammar_game_solver/grammargamesolver/summary/NumberedSetsCopyPinLaw"), (2, u "law"), (0, u "(JJJJJ)Z")] 5

def k1m0 : Method := { name := "<init>", desc := "()V", sig := { parameters := [], returnType := none }, accessFlags := 1, code := none }
def k1c1 : Code := { maxStack := 5, maxLocals := 17, code := code, exceptionTable := #[], attributes := #[] }
def k1m1 : Method := { name := "law", desc := "(JJJJJ)Z", sig := { parameters := [.long, .long, .long, .long, .long], returnType := some .boolean }, accessFlags := 9, code := some k1c1 }
/-- com/example/grammar_game_solver/grammargamesolver/summary/NumberedSetsCopyPinLaw -/
def k1 : Class := { plain "com/example/grammar_game_solver/grammargamesolver/summary/NumberedSetsCopyPinLaw" (some 0) with
  accessFlags := 49
  interfaces := #[]
  cf := some (fileOf pool1 20 #[] #[{ accessFlags := 1, nameIndex := 5, descriptorIndex := 6, attributes := #[] }, { accessFlags := 9, nameIndex := 24, descriptorIndex := 25, attributes := #[] }] 49 2 #[] #[])
  fields := #[]
  methods := #[k1m0, k1m1]
  instanceTypes := #[]
  staticTypes := #[]
  resolved := Array.replicate 31 none
  statics := none }

def pool2 : Array CpInfo := pool [(1, .methodref 2 3), (0, .class_ 4), (0, .nameAndType 5 6), (0, u "java/lang/Object"), (0, u "<init>"), (0, u "()V"), (0, .fieldref 8 9), (0, .class_ 10), (0, .nameAndType 11 12), (0, u "com/example/grammar_game_solver/grammargamesolver/summary/NumberedSets"), (0, u "width"), (0, u "I"), (0, .fieldref 8 14), (0, .nameAndType 15 16), (0, u "words"), (0, u "[J"), (0, .fieldref 8 18), (0, .nameAndType 19 20), (0, u "hashes"), (0, u "[I"), (0, .fieldref 8 22), (0, .nameAndType 23 20), (0, u "slots"), (0, .fieldref 8 25), (0, .nameAndType 26 12), (0, u "count"), (0, .methodref 8 28), (0, .nameAndType 29 30), (0, u "numberOf"), (0, u "([JI)I"), (0, .methodref 32 33), (0, .class_ 34), (0, .nameAndType 35 36), (0, u "java/lang/Long"), (0, u "hashCode"), (0, u "(J)I"), (0, .methodref 8 38), (0, .nameAndType 39 40), (0, u "slotOf"), (0, u "(II)I"), (0, .methodref 8 42), (0, .nameAndType 43 44), (0, u "equalsAt"), (0, u "(I[JI)Z"), (9, .methodref 55 56), (0, .class_ 57), (0, .nameAndType 58 59), (0, u "java/lang/System"), (0, u "arraycopy"), (0, u "(Ljava/lang/Object;ILjava/lang/Object;II)V"), (3, .integer 2654435769), (0, u "FIRST_CAPACITY"), (2, u "(I)V"), (3, u "([J)I"), (6, u "copy"), (0, u "(I[J)V")] 2

def k2c0 : Code := { maxStack := 3, maxLocals := 2, code := prog_63_method_1_code, exceptionTable := #[], attributes := #[] }
def k2m0 : Method := { name := "<init>", desc := "(I)V", sig := { parameters := [.int], returnType := none }, accessFlags := 0, code := some k2c0 }
def k2c1 : Code := { maxStack := 3, maxLocals := 2, code := prog_63_method_4_code, exceptionTable := #[], attributes := #[] }
def k2m1 : Method := { name := "numberOf", desc := "([J)I", sig := { parameters := [(.array .long)], returnType := some .int }, accessFlags := 0, code := some k2c1 }
def k2c2 : Code := { maxStack := 5, maxLocals := 7, code := prog_63_method_6_code, exceptionTable := #[], attributes := #[] }
def k2m2 : Method := { name := "numberOf", desc := "([JI)I", sig := { parameters := [(.array .long), .int], returnType := some .int }, accessFlags := 2, code := some k2c2 }
def k2c3 : Code := { maxStack := 5, maxLocals := 3, code := prog_63_method_9_code, exceptionTable := #[], attributes := #[] }
def k2m3 : Method := { name := "copy", desc := "(I[J)V", sig := { parameters := [.int, (.array .long)], returnType := none }, accessFlags := 0, code := some k2c3 }
def k2c4 : Code := { maxStack := 5, maxLocals := 6, code := prog_63_method_10_code, exceptionTable := #[], attributes := #[] }
def k2m4 : Method := { name := "equalsAt", desc := "(I[JI)Z", sig := { parameters := [.int, (.array .long), .int], returnType := some .boolean }, accessFlags := 2, code := some k2c4 }
def k2c5 : Code := { maxStack := 3, maxLocals := 3, code := prog_63_method_12_code, exceptionTable := #[], attributes := #[] }
def k2m5 : Method := { name := "slotOf", desc := "(II)I", sig := { parameters := [.int, .int], returnType := some .int }, accessFlags := 10, code := some k2c5 }
/-- com/example/grammar_game_solver/grammargamesolver/summary/NumberedSets -/
def k2 : Class := { plain "com/example/grammar_game_solver/grammargamesolver/summary/NumberedSets" (some 0) with
  accessFlags := 32
  interfaces := #[]
  cf := some (fileOf pool2 8 #[] #[{ accessFlags := 0, nameIndex := 5, descriptorIndex := 67, attributes := #[] }, { accessFlags := 0, nameIndex := 29, descriptorIndex := 71, attributes := #[] }, { accessFlags := 2, nameIndex := 29, descriptorIndex := 30, attributes := #[] }, { accessFlags := 0, nameIndex := 78, descriptorIndex := 79, attributes := #[] }, { accessFlags := 2, nameIndex := 43, descriptorIndex := 44, attributes := #[] }, { accessFlags := 10, nameIndex := 39, descriptorIndex := 40, attributes := #[] }] 32 2 #[] #[{ accessFlags := 26, nameIndex := 64, descriptorIndex := 12, attributes := #[] }, { accessFlags := 18, nameIndex := 11, descriptorIndex := 12, attributes := #[] }, { accessFlags := 2, nameIndex := 15, descriptorIndex := 16, attributes := #[] }, { accessFlags := 2, nameIndex := 19, descriptorIndex := 20, attributes := #[] }, { accessFlags := 2, nameIndex := 23, descriptorIndex := 20, attributes := #[] }, { accessFlags := 2, nameIndex := 26, descriptorIndex := 12, attributes := #[] }])
  fields := #[{ name := "FIRST_CAPACITY", type := .int, accessFlags := 26, slot := 0, constantValue := 0 }, { name := "width", type := .int, accessFlags := 18, slot := 0, constantValue := 0 }, { name := "words", type := (.array .long), accessFlags := 2, slot := 1, constantValue := 0 }, { name := "hashes", type := (.array .int), accessFlags := 2, slot := 2, constantValue := 0 }, { name := "slots", type := (.array .int), accessFlags := 2, slot := 3, constantValue := 0 }, { name := "count", type := .int, accessFlags := 2, slot := 4, constantValue := 0 }]
  methods := #[k2m0, k2m1, k2m2, k2m3, k2m4, k2m5]
  instanceTypes := #[.int, (.array .long), (.array .int), (.array .int), .int]
  staticTypes := #[.int]
  resolved := Array.replicate 82 none
  statics := none }

def pool3 : Array CpInfo := pool [(1, .class_ 2), (0, u "java/io/Serializable"), (0, .class_ 4), (0, u "java/lang/Object")] 2

/-- java/io/Serializable -/
def k3 : Class := { plain "java/io/Serializable" (some 0) with
  accessFlags := 1537
  interfaces := #[]
  cf := some (fileOf pool3 1 #[] #[] 1537 3 #[] #[])
  fields := #[]
  methods := #[]
  instanceTypes := #[]
  staticTypes := #[]
  resolved := Array.replicate 7 none
  statics := none }

def pool4 : Array CpInfo := pool [(2, .class_ 4), (1, u "java/lang/Object"), (0, u "<init>"), (0, u "()V"), (1, .class_ 10), (1, u "java/lang/Number"), (2, .class_ 14), (0, u "java/io/Serializable"), (0, u "serialVersionUID"), (0, u "J")] 20

def k4m0 : Method := { name := "<init>", desc := "()V", sig := { parameters := [], returnType := none }, accessFlags := 1, code := none }
/-- java/lang/Number -/
def k4 : Class := { plain "java/lang/Number" (some 0) with
  accessFlags := 1057
  interfaces := #[3]
  cf := some (fileOf pool4 8 #[] #[{ accessFlags := 1, nameIndex := 5, descriptorIndex := 6, attributes := #[] }] 1057 2 #[13] #[{ accessFlags := 26, nameIndex := 15, descriptorIndex := 16, attributes := #[] }])
  fields := #[{ name := "serialVersionUID", type := .long, accessFlags := 26, slot := 0, constantValue := 0 }]
  methods := #[k4m0]
  instanceTypes := #[]
  staticTypes := #[.long]
  resolved := Array.replicate 37 none
  statics := none }

def pool5 : Array CpInfo := pool [(1, .class_ 2), (0, u "java/lang/Comparable"), (0, .class_ 4), (0, u "java/lang/Object")] 7

/-- java/lang/Comparable -/
def k5 : Class := { plain "java/lang/Comparable" (some 0) with
  accessFlags := 1537
  interfaces := #[]
  cf := some (fileOf pool5 1 #[] #[] 1537 3 #[] #[])
  fields := #[]
  methods := #[]
  instanceTypes := #[]
  staticTypes := #[]
  resolved := Array.replicate 12 none
  statics := none }

def pool6 : Array CpInfo := pool [(1, .class_ 2), (0, u "java/lang/constant/Constable"), (0, .class_ 4), (0, u "java/lang/Object")] 6

/-- java/lang/constant/Constable -/
def k6 : Class := { plain "java/lang/constant/Constable" (some 0) with
  accessFlags := 1537
  interfaces := #[]
  cf := some (fileOf pool6 1 #[] #[] 1537 3 #[] #[])
  fields := #[]
  methods := #[]
  instanceTypes := #[]
  staticTypes := #[]
  resolved := Array.replicate 11 none
  statics := none }

def pool7 : Array CpInfo := pool [(1, .class_ 2), (0, u "java/lang/constant/ConstantDesc"), (0, .class_ 4), (0, u "java/lang/Object")] 32

/-- java/lang/constant/ConstantDesc -/
def k7 : Class := { plain "java/lang/constant/ConstantDesc" (some 0) with
  accessFlags := 1537
  interfaces := #[]
  cf := some (fileOf pool7 1 #[] #[] 1537 3 #[] #[])
  fields := #[]
  methods := #[]
  instanceTypes := #[]
  staticTypes := #[]
  resolved := Array.replicate 37 none
  statics := none }

def pool8 : Array CpInfo := pool [(1, .class_ 2), (0, u "java/lang/Long"), (98, u "(J)I"), (133, .class_ 237), (1, u "java/lang/Long$LongCache"), (33, .class_ 272), (0, u "java/lang/Number"), (2, u "value"), (0, u "J"), (2, u "hashCode"), (81, u "TYPE"), (0, u "Ljava/lang/Class;"), (0, .class_ 364), (0, u "java/lang/Comparable"), (0, .class_ 366), (0, u "java/lang/constant/Constable"), (0, .class_ 368), (0, u "java/lang/constant/ConstantDesc"), (0, u "MIN_VALUE"), (1, u "MAX_VALUE"), (4, u "SIZE"), (0, u "I"), (1, u "BYTES"), (1, u "serialVersionUID")] 142

def k8c0 : Code := { maxStack := 5, maxLocals := 2, code := jdk_35_method_36_code, exceptionTable := #[], attributes := #[] }
def k8m0 : Method := { name := "hashCode", desc := "(J)I", sig := { parameters := [.long], returnType := some .int }, accessFlags := 9, code := some k8c0 }
/-- java/lang/Long -/
def k8 : Class := { plain "java/lang/Long" (some 4) with
  accessFlags := 49
  interfaces := #[5, 6, 7]
  cf := some (fileOf pool8 1 #[.nestMembers #[235]] #[{ accessFlags := 9, nameIndex := 279, descriptorIndex := 101, attributes := #[] }] 49 271 #[363, 365, 367] #[{ accessFlags := 25, nameIndex := 369, descriptorIndex := 276, attributes := #[] }, { accessFlags := 25, nameIndex := 371, descriptorIndex := 276, attributes := #[] }, { accessFlags := 25, nameIndex := 361, descriptorIndex := 362, attributes := #[] }, { accessFlags := 18, nameIndex := 275, descriptorIndex := 276, attributes := #[] }, { accessFlags := 25, nameIndex := 376, descriptorIndex := 377, attributes := #[] }, { accessFlags := 25, nameIndex := 379, descriptorIndex := 377, attributes := #[] }, { accessFlags := 26, nameIndex := 381, descriptorIndex := 276, attributes := #[] }])
  fields := #[{ name := "MIN_VALUE", type := .long, accessFlags := 25, slot := 0, constantValue := 0 }, { name := "MAX_VALUE", type := .long, accessFlags := 25, slot := 1, constantValue := 0 }, { name := "TYPE", type := (.object "java/lang/Class"), accessFlags := 25, slot := 2, constantValue := 0 }, { name := "value", type := .long, accessFlags := 18, slot := 0, constantValue := 0 }, { name := "SIZE", type := .int, accessFlags := 25, slot := 3, constantValue := 0 }, { name := "BYTES", type := .int, accessFlags := 25, slot := 4, constantValue := 0 }, { name := "serialVersionUID", type := .long, accessFlags := 26, slot := 5, constantValue := 0 }]
  methods := #[k8m0]
  instanceTypes := #[.long]
  staticTypes := #[.long, .long, (.object "java/lang/Class"), .int, .int, .long]
  resolved := Array.replicate 524 none
  statics := none }

def pool9 : Array CpInfo := pool [(2, .class_ 4), (1, u "java/lang/Object"), (0, u "<init>"), (0, u "()V"), (1, .class_ 10), (1, u "java/lang/System"), (0, u "allowSecurityManager"), (0, u "I"), (16, u "cons"), (0, u "Ljava/io/Console;"), (77, .class_ 110), (1, u "java/lang/System$CallersHolder"), (43, u "initialErrStream"), (0, u "Ljava/io/PrintStream;"), (19, u "security"), (0, u "Ljava/lang/SecurityManager;"), (31, .class_ 209), (0, u "java/lang/System$1"), (7, u "props"), (0, u "Ljava/util/Properties;"), (2, u "lineSeparator"), (0, u "Ljava/lang/String;"), (96, .class_ 321), (1, u "java/lang/System$LoggerFinder"), (5, .class_ 328), (0, u "java/lang/System$Logger"), (67, u "err"), (2, u "out"), (91, u "notSupportedJnuEncoding"), (15, u "in"), (17, u "initialIn"), (0, u "Ljava/io/InputStream;"), (35, u "bootLayer"), (0, u "Ljava/lang/ModuleLayer;"), (99, .class_ 664), (0, u "java/lang/System$2"), (9, u "NEVER"), (2, u "MAYBE"), (49, u "arraycopy"), (0, u "(Ljava/lang/Object;ILjava/lang/Object;II)V"), (72, .class_ 802), (0, u "java/lang/System$Logger$Level")] 31

def k9m0 : Method := { name := "<init>", desc := "()V", sig := { parameters := [], returnType := none }, accessFlags := 2, code := none }
def k9m1 : Method := { name := "arraycopy", desc := "(Ljava/lang/Object;ILjava/lang/Object;II)V", sig := { parameters := [(.object "java/lang/Object"), .int, (.object "java/lang/Object"), .int, .int], returnType := none }, accessFlags := 265, code := none }
/-- java/lang/System -/
def k9 : Class := { plain "java/lang/System" (some 0) with
  accessFlags := 49
  interfaces := #[]
  cf := some (fileOf pool9 8 #[.nestMembers #[319, 327, 801, 108, 663, 208]] #[{ accessFlags := 2, nameIndex := 5, descriptorIndex := 6, attributes := #[] }, { accessFlags := 265, nameIndex := 727, descriptorIndex := 728, attributes := #[] }] 49 2 #[] #[{ accessFlags := 25, nameIndex := 507, descriptorIndex := 526, attributes := #[] }, { accessFlags := 25, nameIndex := 399, descriptorIndex := 155, attributes := #[] }, { accessFlags := 25, nameIndex := 396, descriptorIndex := 155, attributes := #[] }, { accessFlags := 10, nameIndex := 525, descriptorIndex := 526, attributes := #[] }, { accessFlags := 26, nameIndex := 674, descriptorIndex := 12, attributes := #[] }, { accessFlags := 26, nameIndex := 677, descriptorIndex := 12, attributes := #[] }, { accessFlags := 10, nameIndex := 11, descriptorIndex := 12, attributes := #[] }, { accessFlags := 74, nameIndex := 175, descriptorIndex := 176, attributes := #[] }, { accessFlags := 10, nameIndex := 491, descriptorIndex := 222, attributes := #[] }, { accessFlags := 74, nameIndex := 29, descriptorIndex := 30, attributes := #[] }, { accessFlags := 74, nameIndex := 154, descriptorIndex := 155, attributes := #[] }, { accessFlags := 10, nameIndex := 217, descriptorIndex := 218, attributes := #[] }, { accessFlags := 10, nameIndex := 221, descriptorIndex := 222, attributes := #[] }, { accessFlags := 8, nameIndex := 562, descriptorIndex := 563, attributes := #[] }])
  fields := #[{ name := "in", type := (.object "java/io/InputStream"), accessFlags := 25, slot := 0, constantValue := 0 }, { name := "out", type := (.object "java/io/PrintStream"), accessFlags := 25, slot := 1, constantValue := 0 }, { name := "err", type := (.object "java/io/PrintStream"), accessFlags := 25, slot := 2, constantValue := 0 }, { name := "initialIn", type := (.object "java/io/InputStream"), accessFlags := 10, slot := 3, constantValue := 0 }, { name := "NEVER", type := .int, accessFlags := 26, slot := 4, constantValue := 0 }, { name := "MAYBE", type := .int, accessFlags := 26, slot := 5, constantValue := 0 }, { name := "allowSecurityManager", type := .int, accessFlags := 10, slot := 6, constantValue := 0 }, { name := "security", type := (.object "java/lang/SecurityManager"), accessFlags := 74, slot := 7, constantValue := 0 }, { name := "notSupportedJnuEncoding", type := (.object "java/lang/String"), accessFlags := 10, slot := 8, constantValue := 0 }, { name := "cons", type := (.object "java/io/Console"), accessFlags := 74, slot := 9, constantValue := 0 }, { name := "initialErrStream", type := (.object "java/io/PrintStream"), accessFlags := 74, slot := 10, constantValue := 0 }, { name := "props", type := (.object "java/util/Properties"), accessFlags := 10, slot := 11, constantValue := 0 }, { name := "lineSeparator", type := (.object "java/lang/String"), accessFlags := 10, slot := 12, constantValue := 0 }, { name := "bootLayer", type := (.object "java/lang/ModuleLayer"), accessFlags := 8, slot := 13, constantValue := 0 }]
  methods := #[k9m0, k9m1]
  instanceTypes := #[]
  staticTypes := #[(.object "java/io/InputStream"), (.object "java/io/PrintStream"), (.object "java/io/PrintStream"), (.object "java/io/InputStream"), .int, .int, .int, (.object "java/lang/SecurityManager"), (.object "java/lang/String"), (.object "java/io/Console"), (.object "java/io/PrintStream"), (.object "java/util/Properties"), (.object "java/lang/String"), (.object "java/lang/ModuleLayer")]
  resolved := Array.replicate 834 none
  statics := none }

def pool10 : Array CpInfo := pool [(1, u "java/lang/Cloneable"), (0, .class_ 1), (0, u "java/lang/Object"), (0, .class_ 3)] 3

/-- java/lang/Cloneable -/
def k10 : Class := { plain "java/lang/Cloneable" (some 0) with
  accessFlags := 1537
  interfaces := #[]
  cf := some (fileOf pool10 2 #[] #[] 1537 4 #[] #[])
  fields := #[]
  methods := #[]
  instanceTypes := #[]
  staticTypes := #[]
  resolved := Array.replicate 8 none
  statics := none }

/-- the primitive byte -/
def k11 : Class := { plain "byte" none with kind := .primitive 'B', accessFlags := 0x411 }
/-- [B -/
def k12 : Class := { plain "[B" (some 0) with kind := .array 11 .byte, interfaces := #[10, 3], accessFlags := 1041 }

/-- the primitive int -/
def k13 : Class := { plain "int" none with kind := .primitive 'I', accessFlags := 0x411 }
/-- [I -/
def k14 : Class := { plain "[I" (some 0) with kind := .array 13 .int, interfaces := #[10, 3], accessFlags := 1041 }

/-- the primitive long -/
def k15 : Class := { plain "long" none with kind := .primitive 'J', accessFlags := 0x411 }
/-- [J -/
def k16 : Class := { plain "[J" (some 0) with kind := .array 15 .long, interfaces := #[10, 3], accessFlags := 1041 }

def heap : Heap := #[]
def classes : Array Class := #[k0, k1, k2, k3, k4, k5, k6, k7, k8, k9, k10, k11, k12, k13, k14, k15, k16]
def interned : List (Array UInt16 × Addr) := []
def slotsUsed : Nat := 0
def theMethod : MethodId := ⟨1, 1⟩
def args0 : Array Value := #[.long 5, .long 5, .long 5, .long 5, .long 5]
def aboutOver (below : List Frame) : State where
  vm := { classes := classes, interned := interned.toArray }
  heap := heap
  slotsUsed := slotsUsed
  threads := #[{ frames := .invoking theMethod args0 :: below }]
def below0 : List Frame := [.native { method := ⟨0, 0⟩, args := #[] }]
def about1 : State := aboutOver below0
def p0 : Program := .bare "" "" ""
def e0 : Env := launch0.env 0 0 0
theorem w_frames : about1.frames = Frame.invoking theMethod args0 :: below0 := rfl
set_option maxRecDepth 65536 in
theorem w_args : argsFit about1.vm theMethod args0 = true := by decide +kernel
set_option maxRecDepth 65536 in
theorem w_heap : heapFits about1 = true := by decide +kernel
set_option maxRecDepth 65536 in
theorem w_runnable : about1.curStatus? = some .runnable := by decide +kernel
set_option maxRecDepth 65536 in
theorem w_alone : about1.alone = true := by decide +kernel
set_option maxRecDepth 65536 in
theorem w_named : about1.methodNamed? x = some theMethod := by decide +kernel
set_option maxRecDepth 65536 in
theorem w_hears : about1.hears theMethod below0 = true := by decide +kernel
set_option maxRecDepth 65536 in
theorem w_ripe : about1.ripe theMethod args0 below0 = true := by decide +kernel
theorem w_running : about1.status = .running := rfl
set_option maxRecDepth 65536 in
theorem w_room : about1.hasRoom e0.platform room_1 = true :=
  launch0.hasRoom_least _ room_1 (by decide +kernel) (by decide +kernel) (by decide +kernel) (by decide +kernel) (by decide +kernel) (by decide +kernel)
theorem allAtoms_all (ts : List Jvm.Cond) (a : Array Jvm.Value) (st : Jvm.State) : (allAtoms ts).before a st = ts.all (fun c => c.before a st) := by
  induction ts with
  | nil => rfl
  | cons c t ih =>
    show (Jvm.Cond.and c (allAtoms t)).before a st = _
    rw [Jvm.Cond.before_and, ih, List.all_cons]
def words1 : List Jvm.Cond := Jvm.Cond.code x code maxLocals ret :: tables_1
/-- a 'code' word, met by the world's own term for the bytes: nothing is compared byte by byte -/
theorem code_word {y : MethodName} {bytes : ByteArray} {mx : Nat} {rt : Option FieldType} {a : Array Value} {s : State} {m : MethodId} {meth : Method} {c : Code} (h1 : s.methodNamed? y = some m) (h2 : s.vm.method? m = some meth) (h3 : meth.code = some c) (h4 : c.code = bytes)
    (h5 : (c.maxLocals == mx && c.exceptionTable.isEmpty && decide (c.maxStack ≤ mostOperands) && decide (meth.sig.returnType = rt) && !meth.locks && decide (parseMethodDescriptor y.desc = some meth.sig)) = true) : (Jvm.Cond.code y bytes mx rt).before a s = true := by
  simp only [Bool.and_eq_true, beq_iff_eq, Bool.not_eq_true', decide_eq_true_eq] at h5
  obtain ⟨⟨⟨⟨⟨g1, g2⟩, g3⟩, g4⟩, g5⟩, g6⟩ := h5
  simp [Cond.before, Cond.holds, Cond.value, h1, h2, h3, h4, g1, g2, g3, g4, g5, g6]
def isCode : Jvm.Cond → Bool
  | .code _ _ _ _ => true
  | _ => false
theorem all_split {L : List Jvm.Cond} {P : Jvm.Cond → Bool} (h1 : L.all (fun c => isCode c || P c) = true) (h2 : ∀ c ∈ L.filter isCode, P c = true) : L.all P = true := by
  refine List.all_eq_true.mpr fun c hc => ?_
  have h := List.all_eq_true.mp h1 c hc
  rcases Bool.eq_false_or_eq_true (isCode c) with hi | hi
  · exact h2 c (List.mem_filter.mpr ⟨hc, hi⟩)
  · simpa [hi] using h
set_option maxRecDepth 65536 in
theorem w_c0 : (Jvm.Cond.code x code maxLocals ret).before args0 about1 = true := code_word (m := ⟨1, 1⟩) (meth := k1m1) (c := k1c1) (by decide +kernel) rfl rfl rfl (by decide +kernel)
set_option maxRecDepth 65536 in
theorem w_c1 : (Jvm.Cond.code ({ cls := "com/example/grammar_game_solver/grammargamesolver/summary/NumberedSets", name := "<init>", desc := "(I)V" } : Jvm.MethodName) prog_63_method_1_code (2 : Nat) (Option.none : Option Jvm.ClassFile.FieldType)).before args0 about1 = true := code_word (m := ⟨2, 0⟩) (meth := k2m0) (c := k2c0) (by decide +kernel) rfl rfl rfl (by decide +kernel)
set_option maxRecDepth 65536 in
theorem w_c2 : (Jvm.Cond.code ({ cls := "java/lang/Object", name := "<init>", desc := "()V" } : Jvm.MethodName) object_method_1_code (1 : Nat) (Option.none : Option Jvm.ClassFile.FieldType)).before args0 about1 = true := code_word (m := ⟨0, 0⟩) (meth := k0m0) (c := k0c0) (by decide +kernel) rfl rfl rfl (by decide +kernel)
set_option maxRecDepth 65536 in
theorem w_c3 : (Jvm.Cond.code ({ cls := "com/example/grammar_game_solver/grammargamesolver/summary/NumberedSets", name := "numberOf", desc := "([J)I" } : Jvm.MethodName) prog_63_method_4_code (2 : Nat) (Option.some Jvm.ClassFile.FieldType.int)).before args0 about1 = true := code_word (m := ⟨2, 1⟩) (meth := k2m1) (c := k2c1) (by decide +kernel) rfl rfl rfl (by decide +kernel)
set_option maxRecDepth 65536 in
theorem w_c4 : (Jvm.Cond.code ({ cls := "com/example/grammar_game_solver/grammargamesolver/summary/NumberedSets", name := "numberOf", desc := "([JI)I" } : Jvm.MethodName) prog_63_method_6_code (7 : Nat) (Option.some Jvm.ClassFile.FieldType.int)).before args0 about1 = true := code_word (m := ⟨2, 2⟩) (meth := k2m2) (c := k2c2) (by decide +kernel) rfl rfl rfl (by decide +kernel)
set_option maxRecDepth 65536 in
theorem w_c5 : (Jvm.Cond.code ({ cls := "java/lang/Long", name := "hashCode", desc := "(J)I" } : Jvm.MethodName) jdk_35_method_36_code (2 : Nat) (Option.some Jvm.ClassFile.FieldType.int)).before args0 about1 = true := code_word (m := ⟨8, 0⟩) (meth := k8m0) (c := k8c0) (by decide +kernel) rfl rfl rfl (by decide +kernel)
set_option maxRecDepth 65536 in
theorem w_c6 : (Jvm.Cond.code ({ cls := "com/example/grammar_game_solver/grammargamesolver/summary/NumberedSets", name := "slotOf", desc := "(II)I" } : Jvm.MethodName) prog_63_method_12_code (3 : Nat) (Option.some Jvm.ClassFile.FieldType.int)).before args0 about1 = true := code_word (m := ⟨2, 5⟩) (meth := k2m5) (c := k2c5) (by decide +kernel) rfl rfl rfl (by decide +kernel)
set_option maxRecDepth 65536 in
theorem w_c7 : (Jvm.Cond.code ({ cls := "com/example/grammar_game_solver/grammargamesolver/summary/NumberedSets", name := "copy", desc := "(I[J)V" } : Jvm.MethodName) prog_63_method_9_code (3 : Nat) (Option.none : Option Jvm.ClassFile.FieldType)).before args0 about1 = true := code_word (m := ⟨2, 3⟩) (meth := k2m3) (c := k2c3) (by decide +kernel) rfl rfl rfl (by decide +kernel)
set_option maxRecDepth 65536 in
theorem w_c8 : (Jvm.Cond.code ({ cls := "com/example/grammar_game_solver/grammargamesolver/summary/NumberedSets", name := "equalsAt", desc := "(I[JI)Z" } : Jvm.MethodName) prog_63_method_10_code (6 : Nat) (Option.some Jvm.ClassFile.FieldType.boolean)).before args0 about1 = true := code_word (m := ⟨2, 4⟩) (meth := k2m4) (c := k2c4) (by decide +kernel) rfl rfl rfl (by decide +kernel)
def codes1 : List Jvm.Cond := [Jvm.Cond.code x code maxLocals ret, Jvm.Cond.code ({ cls := "com/example/grammar_game_solver/grammargamesolver/summary/NumberedSets", name := "<init>", desc := "(I)V" } : Jvm.MethodName) prog_63_method_1_code (2 : Nat) (Option.none : Option Jvm.ClassFile.FieldType), Jvm.Cond.code ({ cls := "java/lang/Object", name := "<init>", desc := "()V" } : Jvm.MethodName) object_method_1_code (1 : Nat) (Option.none : Option Jvm.ClassFile.FieldType), Jvm.Cond.code ({ cls := "com/example/grammar_game_solver/grammargamesolver/summary/NumberedSets", name := "numberOf", desc := "([J)I" } : Jvm.MethodName) prog_63_method_4_code (2 : Nat) (Option.some Jvm.ClassFile.FieldType.int), Jvm.Cond.code ({ cls := "com/example/grammar_game_solver/grammargamesolver/summary/NumberedSets", name := "numberOf", desc := "([JI)I" } : Jvm.MethodName) prog_63_method_6_code (7 : Nat) (Option.some Jvm.ClassFile.FieldType.int), Jvm.Cond.code ({ cls := "java/lang/Long", name := "hashCode", desc := "(J)I" } : Jvm.MethodName) jdk_35_method_36_code (2 : Nat) (Option.some Jvm.ClassFile.FieldType.int), Jvm.Cond.code ({ cls := "com/example/grammar_game_solver/grammargamesolver/summary/NumberedSets", name := "slotOf", desc := "(II)I" } : Jvm.MethodName) prog_63_method_12_code (3 : Nat) (Option.some Jvm.ClassFile.FieldType.int), Jvm.Cond.code ({ cls := "com/example/grammar_game_solver/grammargamesolver/summary/NumberedSets", name := "copy", desc := "(I[J)V" } : Jvm.MethodName) prog_63_method_9_code (3 : Nat) (Option.none : Option Jvm.ClassFile.FieldType), Jvm.Cond.code ({ cls := "com/example/grammar_game_solver/grammargamesolver/summary/NumberedSets", name := "equalsAt", desc := "(I[JI)Z" } : Jvm.MethodName) prog_63_method_10_code (6 : Nat) (Option.some Jvm.ClassFile.FieldType.boolean)]
set_option maxRecDepth 65536 in
theorem codes_eq : words1.filter isCode = codes1 := rfl
theorem w_codes : ∀ c ∈ words1.filter isCode, c.before args0 about1 = true := by
  rw [codes_eq]
  intro c hc
  simp only [codes1, List.mem_cons, List.not_mem_nil, or_false] at hc
  rcases hc with rfl | rfl | rfl | rfl | rfl | rfl | rfl | rfl | rfl
  · exact w_c0
  · exact w_c1
  · exact w_c2
  · exact w_c3
  · exact w_c4
  · exact w_c5
  · exact w_c6
  · exact w_c7
  · exact w_c8
set_option maxRecDepth 65536 in
theorem w_t1 : (words1.take 24).all (fun c => isCode c || c.before args0 about1) = true := by decide +kernel
set_option maxRecDepth 65536 in
theorem w_t2 : ((words1.drop 24).take 24).all (fun c => isCode c || c.before args0 about1) = true := by decide +kernel
set_option maxRecDepth 65536 in
theorem w_t3 : ((words1.drop 24).drop 24).all (fun c => isCode c || c.before args0 about1) = true := by decide +kernel
theorem w_tables : (allAtoms (Jvm.Cond.code x code maxLocals ret :: tables_1)).before args0 about1 = true := by
  rw [allAtoms_all]
  show words1.all (fun c => c.before args0 about1) = true
  refine all_split ?_ w_codes
  rw [← List.take_append_drop 24 words1, List.all_append, w_t1, ← List.take_append_drop 24 (words1.drop 24), List.all_append, w_t2, w_t3]
  rfl
set_option maxRecDepth 65536 in
theorem w_case : (Jvm.Cond.and given_1 narrow_1).before args0 about1 = true := by decide +kernel
theorem w_applies : (headSpec (Jvm.Cond.code x code maxLocals ret :: tables_1) room_1).applies x e0.platform about1 = true :=
  (Spec.applies_iff w_frames).mpr ⟨w_running, w_runnable, w_alone, w_named, w_hears, w_ripe, w_room, w_tables⟩
theorem atStart : AtStart classFile x code maxLocals ret World_1 tables_1 room_1 Calls_1 rest_1 Pre_1 launch0 p0 e0 about1 theMethod args0 below0 :=
  ⟨lists_1, trivial, launch0.admits_env _ _ _, launch0.least_env, fairChoices_fair.cas, fairChoices_fair.clock, w_frames, w_args, w_heap, w_applies, trivial, trivial, w_case⟩
end start1
theorem witness_1 : WitnessClaimed_1 := ⟨start1.p0, start1.e0, start1.about1, start1.theMethod, start1.args0, start1.below0, start1.atStart⟩
end Jvm.Pilot.@@N@@
