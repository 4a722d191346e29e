import JvmDerived
import JvmDerived.Pilot.@@N@@Statement
import JvmDerived.Pilot.@@N@@Code
set_option linter.unusedVariables false
set_option linter.unusedSimpArgs false

namespace Jvm.RoadKit
open Sem ClassFile Op Lib Jvm.Stand Jvm.Free Jvm.LawKit
section New
variable {p : Program} {l : Launch} {e : Env} {R : Room} {s : State} {m : MethodId} {args : Array Value} {below : List Frame} {meth : Method} {c : Code} {T : State} {locs : List Loc} {cells slots : Nat}
theorem retI (X : Stand p l e R s m args below meth c T locs cells slots) (hx : p.tables.exec = Jvm.exec) {pc : Nat} {Ls : Array Slot} {z : Int32} {rest : List Value} (hret : meth.sig.returnType = some .int) (hd : decode c.code pc = .ok (.ireturn, 1)) {fs : List Frame}
    (hl : ∀ (f : JFrame) (acts : List Action), f.method = m → f.locked = none → f.entered = [] → (doReturn e (T.setTop f) acts (some (.int z))).1 = T.setFrames fs) : Steps p.tables e below (T.setTop (mkF m pc Ls (.int z :: rest))) (T.setFrames fs) := by
  have hm' : T.vm.method? m = some meth := X.method'
  have hn : narrow .int (.int z) = .int z := rfl
  show Steps p.tables e below (T.setTop { method := m, pc := pc, locals := Ls, stack := _ :: rest, locked := none }) _
  jvm_step X.here [X.here.top, hx, hd, hm', hret, hn]
  first | (intro acts; rw [hl _ acts rfl rfl rfl]) | rw [hl _ _ rfl rfl rfl]
  exact Steps.refl _
end New
end Jvm.RoadKit
namespace Jvm.Pilot.@@N@@
open Jvm Jvm.ClassFile Sem Op Lib Jvm.Free Jvm.Stand Jvm.LawKit Jvm.RoadKit Bundle Jvm.Pilot.@@N@@.Jvm.D
abbrev nSt : String := "com/example/slackline/slackline/replay/Steps"
abbrev nCh : String := "com/example/slackline/slackline/replay/Steps$Chunk"
abbrev nBl : String := "com/example/slackline/slackline/replay/Steps$Block"
abbrev c_3 : String := "com/example/slackline/slackline/replay/Steps$Cursor"
abbrev c_4 : String := "com/example/slackline/slackline/replay/Plan$Walk"
abbrev c_5 : String := "com/example/slackline/slackline/replay/Plan"
abbrev c_6 : String := "com/example/slackline/slackline/replay/DraftSteps"
abbrev y_0 : MethodName := ⟨"java/lang/Math", "min", "(JJ)J"⟩
abbrev y_1 : MethodName := ⟨"java/lang/Math", "max", "(JJ)J"⟩
abbrev y_2 : MethodName := ⟨"java/lang/Math", "max", "(II)I"⟩
abbrev y_3 : MethodName := ⟨"com/example/slackline/slackline/replay/Steps", "lastAtOrBefore", "([JIJ)I"⟩
abbrev y_4 : MethodName := ⟨"com/example/slackline/slackline/replay/Steps", "stepAt", "(Lcom/example/slackline/slackline/replay/Steps$Chunk;J)I"⟩
abbrev y_5 : MethodName := ⟨"com/example/slackline/slackline/replay/Steps", "stepsBefore", "(Lcom/example/slackline/slackline/replay/Steps$Chunk;J)I"⟩
abbrev y_6 : MethodName := ⟨"com/example/slackline/slackline/replay/Steps", "chunkAt", "(J)I"⟩
abbrev y_7 : MethodName := ⟨"com/example/slackline/slackline/replay/Steps", "changed", "(Lcom/example/slackline/slackline/replay/Steps$Chunk;)V"⟩
abbrev y_8 : MethodName := ⟨"com/example/slackline/slackline/replay/Steps", "move", "(Lcom/example/slackline/slackline/replay/Steps$Chunk;ILcom/example/slackline/slackline/replay/Steps$Chunk;II)V"⟩
abbrev y_9 : MethodName := ⟨"com/example/slackline/slackline/replay/Steps", "addUnits", "(III[II)V"⟩
abbrev y_10 : MethodName := ⟨"com/example/slackline/slackline/replay/Steps$Block", "<init>", "(Lcom/example/slackline/slackline/replay/Steps;)V"⟩
abbrev y_11 : MethodName := ⟨"com/example/slackline/slackline/replay/Steps$Chunk", "<init>", "(Lcom/example/slackline/slackline/replay/Steps;Lcom/example/slackline/slackline/replay/Steps$Block;)V"⟩
abbrev y_12 : MethodName := ⟨"com/example/slackline/slackline/replay/Steps", "addChunk", "(ILcom/example/slackline/slackline/replay/Steps$Chunk;)V"⟩
abbrev y_13 : MethodName := ⟨"com/example/slackline/slackline/replay/Steps", "finishingAt", "(JI)V"⟩
abbrev y_14 : MethodName := ⟨"com/example/slackline/slackline/replay/Steps", "addBefore", "(IIJ[II)V"⟩
abbrev y_15 : MethodName := ⟨"com/example/slackline/slackline/replay/Steps", "split", "(J)V"⟩
abbrev y_16 : MethodName := ⟨"com/example/slackline/slackline/replay/Steps", "place", "(JJ[II)V"⟩
abbrev y_17 : MethodName := ⟨"com/example/slackline/slackline/replay/Steps$Cursor", "<init>", "(Lcom/example/slackline/slackline/replay/Steps;II)V"⟩
abbrev y_18 : MethodName := ⟨"com/example/slackline/slackline/replay/Steps", "floor", "(J)Lcom/example/slackline/slackline/replay/Steps$Cursor;"⟩
abbrev y_19 : MethodName := ⟨"com/example/slackline/slackline/replay/Plan$Walk", "<init>", "(Lcom/example/slackline/slackline/replay/Plan;)V"⟩
abbrev y_20 : MethodName := ⟨"java/lang/Integer", "numberOfLeadingZeros", "(I)I"⟩
abbrev y_21 : MethodName := ⟨"com/example/slackline/slackline/replay/Steps", "<init>", "([II)V"⟩
abbrev y_22 : MethodName := ⟨"com/example/slackline/slackline/replay/DraftSteps", "<init>", "(I)V"⟩
abbrev y_23 : MethodName := ⟨"com/example/slackline/slackline/replay/Plan", "touched", "(JJ)V"⟩
abbrev y_24 : MethodName := ⟨"com/example/slackline/slackline/replay/Plan", "reserve", "(JJ[I)V"⟩
abbrev y_25 : MethodName := ⟨"com/example/slackline/slackline/replay/Plan", "untouchedSince", "(JJJ)Z"⟩
abbrev y_26 : MethodName := ⟨"com/example/slackline/slackline/replay/PlanUntouchedSincePinLaw", "shares", "(JJJJ)Z"⟩
abbrev y_27 : MethodName := ⟨"com/example/slackline/slackline/replay/Plan", "version", "()J"⟩
abbrev y_28 : MethodName := ⟨"com/example/slackline/slackline/replay/Plan", "<init>", "([II)V"⟩
abbrev own_zl (n : Nat) : List Value := List.replicate n (.long (0 : Int64))
abbrev own_zi (n : Nat) : List Value := List.replicate n (.int (0 : Int32))
abbrev own_zr (n : Nat) : List Value := List.replicate n .null
abbrev vi (x : Int32) : Slot := .val (.int x)
abbrev vj (x : Int64) : Slot := .val (.long x)
abbrev vr (x : Addr) : Slot := .val (.ref x)
section Steps
variable {p : Program} {l : Launch} {e : Env} {R : Room} {s : State} {m : MethodId} {args : Array Value} {below : List Frame} {meth : Method} {c : Code} {T : State} {locs : List Loc} {cells slots : Nat} {pc pc' : Nat} {Ls L' : Array Slot} {S : List Value} {t : State} {Z : State} {h : Heap} {a : Addr} {cl : Cell}
abbrev Go (p : Program) (e : Env) (below : List Frame) (T0 : State) (g0 : JFrame) (T : State) (g : JFrame) : Prop := ∀ t, Steps p.tables e below (T.setTop g) t → Steps p.tables e below (T0.setTop g0) t
theorem own_w {Z : State} {a0 : Array Value} (hw : ∀ d ∈ tables_1, d.before a0 Z = true) (k : Nat) {d : Jvm.Cond} (h : tables_1[k]? = some d) : d.before a0 Z = true := hw _ (List.mem_of_getElem? h)
theorem o_iloadN (X : Stand p l e R s m args below meth c T locs cells slots) (hx : p.tables.exec = Jvm.exec) {i : Fin 4} {v : Int32} (hd : decode c.code pc = .ok (.iload_n i, 1)) (hl : Ls[i.val]? = some (.val (.int v))) (k : Steps p.tables e below (T.setTop (mkF m (pc + 1) Ls (.int v :: S))) t) : Steps p.tables e below (T.setTop (mkF m pc Ls (S))) t := XS.iloadN X.here hx rfl hd hl k
theorem o_iload (X : Stand p l e R s m args below meth c T locs cells slots) (hx : p.tables.exec = Jvm.exec) {i : Nat} {v : Int32} (hd : decode c.code pc = .ok (.iload i, 2)) (hl : Ls[i]? = some (.val (.int v))) (k : Steps p.tables e below (T.setTop (mkF m (pc + 2) Ls (.int v :: S))) t) : Steps p.tables e below (T.setTop (mkF m pc Ls (S))) t := XS.iload X.here hx rfl hd hl k
theorem o_lloadN (X : Stand p l e R s m args below meth c T locs cells slots) (hx : p.tables.exec = Jvm.exec) {i : Fin 4} {v : Int64} (hd : decode c.code pc = .ok (.lload_n i, 1)) (hl : Ls[i.val]? = some (.val (.long v))) (k : Steps p.tables e below (T.setTop (mkF m (pc + 1) Ls (.long v :: S))) t) : Steps p.tables e below (T.setTop (mkF m pc Ls (S))) t := XS.lloadN X.here hx rfl hd hl k
theorem o_lload (X : Stand p l e R s m args below meth c T locs cells slots) (hx : p.tables.exec = Jvm.exec) {i : Nat} {v : Int64} (hd : decode c.code pc = .ok (.lload i, 2)) (hl : Ls[i]? = some (.val (.long v))) (k : Steps p.tables e below (T.setTop (mkF m (pc + 2) Ls (.long v :: S))) t) : Steps p.tables e below (T.setTop (mkF m pc Ls (S))) t := XS.lload X.here hx rfl hd hl k
theorem o_aloadN (X : Stand p l e R s m args below meth c T locs cells slots) (hx : p.tables.exec = Jvm.exec) {i : Fin 4} {v : Value} (hd : decode c.code pc = .ok (.aload_n i, 1)) (hl : Ls[i.val]? = some (.val v)) (hv : v.isRef = true) (k : Steps p.tables e below (T.setTop (mkF m (pc + 1) Ls (v :: S))) t) : Steps p.tables e below (T.setTop (mkF m pc Ls (S))) t := XS.aloadN X.here hx rfl hd hl hv k
theorem o_aload (X : Stand p l e R s m args below meth c T locs cells slots) (hx : p.tables.exec = Jvm.exec) {i : Nat} {v : Value} (hd : decode c.code pc = .ok (.aload i, 2)) (hl : Ls[i]? = some (.val v)) (hv : v.isRef = true) (k : Steps p.tables e below (T.setTop (mkF m (pc + 2) Ls (v :: S))) t) : Steps p.tables e below (T.setTop (mkF m pc Ls (S))) t := XS.aload X.here hx rfl hd hl hv k
theorem o_istoreN (X : Stand p l e R s m args below meth c T locs cells slots) (hx : p.tables.exec = Jvm.exec) {i : Fin 4} {v : Int32} (hd : decode c.code pc = .ok (.istore_n i, 1)) (hl : storeLocals Ls i.val (.int v) = some L') (k : Steps p.tables e below (T.setTop (mkF m (pc + 1) L' (S))) t) : Steps p.tables e below (T.setTop (mkF m pc Ls (.int v :: S))) t := XS.istoreN X.here hx rfl hd rfl hl k
theorem o_istore (X : Stand p l e R s m args below meth c T locs cells slots) (hx : p.tables.exec = Jvm.exec) {i : Nat} {v : Int32} (hd : decode c.code pc = .ok (.istore i, 2)) (hl : storeLocals Ls i (.int v) = some L') (k : Steps p.tables e below (T.setTop (mkF m (pc + 2) L' (S))) t) : Steps p.tables e below (T.setTop (mkF m pc Ls (.int v :: S))) t := XS.istore X.here hx rfl hd rfl hl k
theorem o_lstore (X : Stand p l e R s m args below meth c T locs cells slots) (hx : p.tables.exec = Jvm.exec) {i : Nat} {v : Int64} (hd : decode c.code pc = .ok (.lstore i, 2)) (hl : storeLocals Ls i (.long v) = some L') (k : Steps p.tables e below (T.setTop (mkF m (pc + 2) L' (S))) t) : Steps p.tables e below (T.setTop (mkF m pc Ls (.long v :: S))) t := XS.lstore X.here hx rfl hd rfl hl k
theorem o_astoreN (X : Stand p l e R s m args below meth c T locs cells slots) (hx : p.tables.exec = Jvm.exec) {i : Fin 4} {v : Value} (hd : decode c.code pc = .ok (.astore_n i, 1)) (hv : v.isRef = true) (hl : storeLocals Ls i.val v = some L') (k : Steps p.tables e below (T.setTop (mkF m (pc + 1) L' (S))) t) : Steps p.tables e below (T.setTop (mkF m pc Ls (v :: S))) t := XS.astoreN X.here hx rfl hd rfl hv hl k
theorem o_astore (X : Stand p l e R s m args below meth c T locs cells slots) (hx : p.tables.exec = Jvm.exec) {i : Nat} {v : Value} (hd : decode c.code pc = .ok (.astore i, 2)) (hv : v.isRef = true) (hl : storeLocals Ls i v = some L') (k : Steps p.tables e below (T.setTop (mkF m (pc + 2) L' (S))) t) : Steps p.tables e below (T.setTop (mkF m pc Ls (v :: S))) t := XS.astore X.here hx rfl hd rfl hv hl k
theorem o_iconst (X : Stand p l e R s m args below meth c T locs cells slots) (hx : p.tables.exec = Jvm.exec) {i : Int} {v : Int32} (hd : decode c.code pc = .ok (.iconst i, 1)) (hv : v = Int32.ofInt i) (k : Steps p.tables e below (T.setTop (mkF m (pc + 1) Ls (.int v :: S))) t) : Steps p.tables e below (T.setTop (mkF m pc Ls (S))) t := XS.iconst X.here hx rfl hd (hv ▸ k)
theorem o_bipush (X : Stand p l e R s m args below meth c T locs cells slots) (hx : p.tables.exec = Jvm.exec) {i : Int} {v : Int32} (hd : decode c.code pc = .ok (.bipush i, 2)) (hv : v = (Int8.ofInt i).toInt32) (k : Steps p.tables e below (T.setTop (mkF m (pc + 2) Ls (.int v :: S))) t) : Steps p.tables e below (T.setTop (mkF m pc Ls (S))) t := XS.bipush X.here hx rfl hd (hv ▸ k)
theorem o_sipush (X : Stand p l e R s m args below meth c T locs cells slots) (hx : p.tables.exec = Jvm.exec) {i : Int} {v : Int32} (hd : decode c.code pc = .ok (.sipush i, 3)) (hv : v = (Int16.ofInt i).toInt32) (k : Steps p.tables e below (T.setTop (mkF m (pc + 3) Ls (.int v :: S))) t) : Steps p.tables e below (T.setTop (mkF m pc Ls (S))) t := XS.sipush X.here hx rfl hd (hv ▸ k)
theorem o_lconst (X : Stand p l e R s m args below meth c T locs cells slots) (hx : p.tables.exec = Jvm.exec) {i : Fin 2} {v : Int64} (hd : decode c.code pc = .ok (.lconst i, 1)) (hv : v = Int64.ofNat i) (k : Steps p.tables e below (T.setTop (mkF m (pc + 1) Ls (.long v :: S))) t) : Steps p.tables e below (T.setTop (mkF m pc Ls (S))) t := XS.lconst X.here hx rfl hd (hv ▸ k)
theorem o_ldcw (X : Stand p l e R s m args below meth c T locs cells slots) (hx : p.tables.exec = Jvm.exec) {own : String} {i : Nat} {v : Int32} (ho : s.vm.findClass own = some m.cls) (w : (Cond.constant own i v).before args s = true) (hd : decode c.code pc = .ok (.ldc_w i, 3))  (k : Steps p.tables e below (T.setTop (mkF m (pc + 3) Ls (.int v :: S))) t) : Steps p.tables e below (T.setTop (mkF m pc Ls (S))) t := X.ldcWInt hx ho w (g := mkF m pc Ls S) rfl hd _ k
theorem o_ldc2 (X : Stand p l e R s m args below meth c T locs cells slots) (hx : p.tables.exec = Jvm.exec) {own : String} {i : Nat} {v : Int64} (ho : s.vm.findClass own = some m.cls) (w : (Cond.constantLong own i v).before args s = true) (hd : decode c.code pc = .ok (.ldc2_w i, 3))  (k : Steps p.tables e below (T.setTop (mkF m (pc + 3) Ls (.long v :: S))) t) : Steps p.tables e below (T.setTop (mkF m pc Ls (S))) t := X.ldc2Long hx ho w (g := mkF m pc Ls S) rfl hd _ k
theorem o_iadd (X : Stand p l e R s m args below meth c T locs cells slots) (hx : p.tables.exec = Jvm.exec) {x y : Int32} (hd : decode c.code pc = .ok (.iadd, 1))  (k : Steps p.tables e below (T.setTop (mkF m (pc + 1) Ls (.int (x + y) :: S))) t) : Steps p.tables e below (T.setTop (mkF m pc Ls (.int y :: .int x :: S))) t := XS.iadd X.here hx rfl hd rfl k
theorem o_iaddE (X : Stand p l e R s m args below meth c T locs cells slots) (hx : p.tables.exec = Jvm.exec) {x y v : Int32} (hd : decode c.code pc = .ok (.iadd, 1)) (hv : v = x + y) (k : Steps p.tables e below (T.setTop (mkF m (pc + 1) Ls (.int v :: S))) t) : Steps p.tables e below (T.setTop (mkF m pc Ls (.int y :: .int x :: S))) t := XS.iadd X.here hx rfl hd rfl (hv ▸ k)
theorem o_ladd (X : Stand p l e R s m args below meth c T locs cells slots) (hx : p.tables.exec = Jvm.exec) {x y : Int64} (hd : decode c.code pc = .ok (.ladd, 1))  (k : Steps p.tables e below (T.setTop (mkF m (pc + 1) Ls (.long (x + y) :: S))) t) : Steps p.tables e below (T.setTop (mkF m pc Ls (.long y :: .long x :: S))) t := XS.ladd X.here hx rfl hd rfl k
theorem o_laddE (X : Stand p l e R s m args below meth c T locs cells slots) (hx : p.tables.exec = Jvm.exec) {x y v : Int64} (hd : decode c.code pc = .ok (.ladd, 1)) (hv : v = x + y) (k : Steps p.tables e below (T.setTop (mkF m (pc + 1) Ls (.long v :: S))) t) : Steps p.tables e below (T.setTop (mkF m pc Ls (.long y :: .long x :: S))) t := XS.ladd X.here hx rfl hd rfl (hv ▸ k)
theorem o_isub (X : Stand p l e R s m args below meth c T locs cells slots) (hx : p.tables.exec = Jvm.exec) {x y : Int32} (hd : decode c.code pc = .ok (.isub, 1))  (k : Steps p.tables e below (T.setTop (mkF m (pc + 1) Ls (.int (x - y) :: S))) t) : Steps p.tables e below (T.setTop (mkF m pc Ls (.int y :: .int x :: S))) t := XS.isub X.here hx rfl hd rfl k
theorem o_isubE (X : Stand p l e R s m args below meth c T locs cells slots) (hx : p.tables.exec = Jvm.exec) {x y v : Int32} (hd : decode c.code pc = .ok (.isub, 1)) (hv : v = x - y) (k : Steps p.tables e below (T.setTop (mkF m (pc + 1) Ls (.int v :: S))) t) : Steps p.tables e below (T.setTop (mkF m pc Ls (.int y :: .int x :: S))) t := XS.isub X.here hx rfl hd rfl (hv ▸ k)
theorem o_lsub (X : Stand p l e R s m args below meth c T locs cells slots) (hx : p.tables.exec = Jvm.exec) {x y : Int64} (hd : decode c.code pc = .ok (.lsub, 1))  (k : Steps p.tables e below (T.setTop (mkF m (pc + 1) Ls (.long (x - y) :: S))) t) : Steps p.tables e below (T.setTop (mkF m pc Ls (.long y :: .long x :: S))) t := XS.lsub X.here hx rfl hd rfl k
theorem o_lsubE (X : Stand p l e R s m args below meth c T locs cells slots) (hx : p.tables.exec = Jvm.exec) {x y v : Int64} (hd : decode c.code pc = .ok (.lsub, 1)) (hv : v = x - y) (k : Steps p.tables e below (T.setTop (mkF m (pc + 1) Ls (.long v :: S))) t) : Steps p.tables e below (T.setTop (mkF m pc Ls (.long y :: .long x :: S))) t := XS.lsub X.here hx rfl hd rfl (hv ▸ k)
theorem o_imul (X : Stand p l e R s m args below meth c T locs cells slots) (hx : p.tables.exec = Jvm.exec) {x y : Int32} (hd : decode c.code pc = .ok (.imul, 1))  (k : Steps p.tables e below (T.setTop (mkF m (pc + 1) Ls (.int (x * y) :: S))) t) : Steps p.tables e below (T.setTop (mkF m pc Ls (.int y :: .int x :: S))) t := XS.imul X.here hx rfl hd rfl k
theorem o_imulE (X : Stand p l e R s m args below meth c T locs cells slots) (hx : p.tables.exec = Jvm.exec) {x y v : Int32} (hd : decode c.code pc = .ok (.imul, 1)) (hv : v = x * y) (k : Steps p.tables e below (T.setTop (mkF m (pc + 1) Ls (.int v :: S))) t) : Steps p.tables e below (T.setTop (mkF m pc Ls (.int y :: .int x :: S))) t := XS.imul X.here hx rfl hd rfl (hv ▸ k)
theorem o_lmul (X : Stand p l e R s m args below meth c T locs cells slots) (hx : p.tables.exec = Jvm.exec) {x y : Int64} (hd : decode c.code pc = .ok (.lmul, 1))  (k : Steps p.tables e below (T.setTop (mkF m (pc + 1) Ls (.long (x * y) :: S))) t) : Steps p.tables e below (T.setTop (mkF m pc Ls (.long y :: .long x :: S))) t := XS.lmul X.here hx rfl hd rfl k
theorem o_iand (X : Stand p l e R s m args below meth c T locs cells slots) (hx : p.tables.exec = Jvm.exec) {x y : Int32} (hd : decode c.code pc = .ok (.iand, 1))  (k : Steps p.tables e below (T.setTop (mkF m (pc + 1) Ls (.int (x &&& y) :: S))) t) : Steps p.tables e below (T.setTop (mkF m pc Ls (.int y :: .int x :: S))) t := XS.iand X.here hx rfl hd rfl k
theorem o_land (X : Stand p l e R s m args below meth c T locs cells slots) (hx : p.tables.exec = Jvm.exec) {x y : Int64} (hd : decode c.code pc = .ok (.land, 1))  (k : Steps p.tables e below (T.setTop (mkF m (pc + 1) Ls (.long (x &&& y) :: S))) t) : Steps p.tables e below (T.setTop (mkF m pc Ls (.long y :: .long x :: S))) t := XS.land X.here hx rfl hd rfl k
theorem o_ior (X : Stand p l e R s m args below meth c T locs cells slots) (hx : p.tables.exec = Jvm.exec) {x y : Int32} (hd : decode c.code pc = .ok (.ior, 1))  (k : Steps p.tables e below (T.setTop (mkF m (pc + 1) Ls (.int (x ||| y) :: S))) t) : Steps p.tables e below (T.setTop (mkF m pc Ls (.int y :: .int x :: S))) t := XS.ior X.here hx rfl hd rfl k
theorem o_i2l (X : Stand p l e R s m args below meth c T locs cells slots) (hx : p.tables.exec = Jvm.exec) {x : Int32} (hd : decode c.code pc = .ok (.i2l, 1))  (k : Steps p.tables e below (T.setTop (mkF m (pc + 1) Ls (.long (x.toInt64) :: S))) t) : Steps p.tables e below (T.setTop (mkF m pc Ls (.int x :: S))) t := XS.i2l X.here hx rfl hd rfl k
theorem o_i2lE (X : Stand p l e R s m args below meth c T locs cells slots) (hx : p.tables.exec = Jvm.exec) {x : Int32} {v : Int64} (hd : decode c.code pc = .ok (.i2l, 1)) (hv : v = x.toInt64) (k : Steps p.tables e below (T.setTop (mkF m (pc + 1) Ls (.long v :: S))) t) : Steps p.tables e below (T.setTop (mkF m pc Ls (.int x :: S))) t := XS.i2l X.here hx rfl hd rfl (hv ▸ k)
theorem o_l2iE (X : Stand p l e R s m args below meth c T locs cells slots) (hx : p.tables.exec = Jvm.exec) {x : Int64} {v : Int32} (hd : decode c.code pc = .ok (.l2i, 1)) (hv : v = x.toInt32) (k : Steps p.tables e below (T.setTop (mkF m (pc + 1) Ls (.int v :: S))) t) : Steps p.tables e below (T.setTop (mkF m pc Ls (.long x :: S))) t := XS.l2i X.here hx rfl hd rfl (hv ▸ k)
theorem o_iushr (X : Stand p l e R s m args below meth c T locs cells slots) (hx : p.tables.exec = Jvm.exec) {x : Int32} {y : Int32} (hd : decode c.code pc = .ok (.iushr, 1))  (k : Steps p.tables e below (T.setTop (mkF m (pc + 1) Ls (.int ((x.toUInt32 >>> (y &&& 31).toUInt32).toInt32) :: S))) t) : Steps p.tables e below (T.setTop (mkF m pc Ls (.int y :: .int x :: S))) t := XS.iushr X.here hx rfl hd rfl k
theorem o_iushrE (X : Stand p l e R s m args below meth c T locs cells slots) (hx : p.tables.exec = Jvm.exec) {x v : Int32} {y : Int32} (hd : decode c.code pc = .ok (.iushr, 1)) (hv : v = ((x.toUInt32 >>> (y &&& 31).toUInt32).toInt32)) (k : Steps p.tables e below (T.setTop (mkF m (pc + 1) Ls (.int v :: S))) t) : Steps p.tables e below (T.setTop (mkF m pc Ls (.int y :: .int x :: S))) t := XS.iushr X.here hx rfl hd rfl (hv ▸ k)
theorem o_lushr (X : Stand p l e R s m args below meth c T locs cells slots) (hx : p.tables.exec = Jvm.exec) {x : Int64} {y : Int32} (hd : decode c.code pc = .ok (.lushr, 1))  (k : Steps p.tables e below (T.setTop (mkF m (pc + 1) Ls (.long ((x.toUInt64 >>> (y &&& 0x3f).toInt64.toUInt64).toInt64) :: S))) t) : Steps p.tables e below (T.setTop (mkF m pc Ls (.int y :: .long x :: S))) t := XS.lushr X.here hx rfl hd rfl k
theorem o_lcmp (X : Stand p l e R s m args below meth c T locs cells slots) (hx : p.tables.exec = Jvm.exec) {x y : Int64} (hd : decode c.code pc = .ok (.lcmp, 1))  (k : Steps p.tables e below (T.setTop (mkF m (pc + 1) Ls (.int (lcmpW x y) :: S))) t) : Steps p.tables e below (T.setTop (mkF m pc Ls (.long y :: .long x :: S))) t := XS.lcmp X.here hx rfl hd rfl k
theorem o_idivE (X : Stand p l e R s m args below meth c T locs cells slots) (hx : p.tables.exec = Jvm.exec) {x y v : Int32} (hd : decode c.code pc = .ok (.idiv, 1)) (hy : y ≠ 0) (hv : v = x / y) (k : Steps p.tables e below (T.setTop (mkF m (pc + 1) Ls (.int v :: S))) t) : Steps p.tables e below (T.setTop (mkF m pc Ls (.int y :: .int x :: S))) t := XS.idiv X.here hx rfl hd rfl hy (hv ▸ k)
theorem o_lremE (X : Stand p l e R s m args below meth c T locs cells slots) (hx : p.tables.exec = Jvm.exec) {x y v : Int64} (hd : decode c.code pc = .ok (.lrem, 1)) (hy : y ≠ 0) (hv : v = x - (x / y) * y) (k : Steps p.tables e below (T.setTop (mkF m (pc + 1) Ls (.long v :: S))) t) : Steps p.tables e below (T.setTop (mkF m pc Ls (.long y :: .long x :: S))) t := XS.lrem X.here hx rfl hd rfl hy (hv ▸ k)
theorem o_iinc (X : Stand p l e R s m args below meth c T locs cells slots) (hx : p.tables.exec = Jvm.exec) {i : Nat} {cst : Int} {x : Int32} (hd : decode c.code pc = .ok (.iinc i cst, 3)) (hl : Ls[i]? = some (.val (.int x))) (hl' : storeLocals Ls i (.int (x + Int32.ofInt cst)) = some L') (k : Steps p.tables e below (T.setTop (mkF m (pc + 3) L' (S))) t) : Steps p.tables e below (T.setTop (mkF m pc Ls (S))) t := XS.iinc X.here hx rfl hd hl hl' k
theorem o_dup (X : Stand p l e R s m args below meth c T locs cells slots) (hx : p.tables.exec = Jvm.exec) {x : Value} (hd : decode c.code pc = .ok (.dup, 1)) (hc : x.category = 1) (k : Steps p.tables e below (T.setTop (mkF m (pc + 1) Ls (x :: x :: S))) t) : Steps p.tables e below (T.setTop (mkF m pc Ls (x :: S))) t := XS.dup X.here hx rfl hd rfl hc k
theorem o_dupX1 (X : Stand p l e R s m args below meth c T locs cells slots) (hx : p.tables.exec = Jvm.exec) {x y : Value} (hd : decode c.code pc = .ok (.dup_x1, 1)) (hc : x.category = 1) (hc' : y.category = 1) (k : Steps p.tables e below (T.setTop (mkF m (pc + 1) Ls (x :: y :: x :: S))) t) : Steps p.tables e below (T.setTop (mkF m pc Ls (x :: y :: S))) t := XS.dupX1 X.here hx rfl hd rfl hc hc' k
theorem o_dup2 (X : Stand p l e R s m args below meth c T locs cells slots) (hx : p.tables.exec = Jvm.exec) {x y : Value} (hd : decode c.code pc = .ok (.dup2, 1)) (hc : x.category = 1) (hc' : y.category = 1) (k : Steps p.tables e below (T.setTop (mkF m (pc + 1) Ls (x :: y :: x :: y :: S))) t) : Steps p.tables e below (T.setTop (mkF m pc Ls (x :: y :: S))) t := Jvm.Free.XT.dup2 X.here hx rfl hd rfl hc hc' k
theorem o_goto (X : Stand p l e R s m args below meth c T locs cells slots) (hx : p.tables.exec = Jvm.exec) {o : Int} (hd : decode c.code pc = .ok (.goto o, 3)) (hp : ((pc : Int) + o).toNat = pc') (ho : 0 ≤ (pc : Int) + o) (k : Steps p.tables e below (T.setTop (mkF m (pc') Ls (S))) t) : Steps p.tables e below (T.setTop (mkF m pc Ls (S))) t := XS.goto X.here hx rfl rfl hd ho hp k
theorem o_ifYes (X : Stand p l e R s m args below meth c T locs cells slots) (hx : p.tables.exec = Jvm.exec) {cd : ClassFile.Cond} {x : Int32} {o : Int} (hd : decode c.code pc = .ok (.ifCond cd o, 3)) (hp : ((pc : Int) + o).toNat = pc') (ho : 0 ≤ (pc : Int) + o) (hc : ifCond.holds cd x = true) (k : Steps p.tables e below (T.setTop (mkF m (pc') Ls (S))) t) : Steps p.tables e below (T.setTop (mkF m pc Ls (.int x :: S))) t := XS.ifYes X.here hx rfl rfl hd rfl hc ho hp k
theorem o_ifNo (X : Stand p l e R s m args below meth c T locs cells slots) (hx : p.tables.exec = Jvm.exec) {cd : ClassFile.Cond} {x : Int32} {o : Int} (hd : decode c.code pc = .ok (.ifCond cd o, 3)) (hc : ifCond.holds cd x = false) (k : Steps p.tables e below (T.setTop (mkF m (pc + 3) Ls (S))) t) : Steps p.tables e below (T.setTop (mkF m pc Ls (.int x :: S))) t := XS.ifNo X.here hx rfl hd rfl hc k
theorem o_icmpYes (X : Stand p l e R s m args below meth c T locs cells slots) (hx : p.tables.exec = Jvm.exec) {cd : ClassFile.Cond} {x y : Int32} {o : Int} (hd : decode c.code pc = .ok (.if_icmp cd o, 3)) (hp : ((pc : Int) + o).toNat = pc') (ho : 0 ≤ (pc : Int) + o) (hc : if_icmp.holds cd x y = true) (k : Steps p.tables e below (T.setTop (mkF m (pc') Ls (S))) t) : Steps p.tables e below (T.setTop (mkF m pc Ls (.int y :: .int x :: S))) t := XS.icmpYes X.here hx rfl rfl hd rfl hc ho hp k
theorem o_icmpNo (X : Stand p l e R s m args below meth c T locs cells slots) (hx : p.tables.exec = Jvm.exec) {cd : ClassFile.Cond} {x y : Int32} {o : Int} (hd : decode c.code pc = .ok (.if_icmp cd o, 3)) (hc : if_icmp.holds cd x y = false) (k : Steps p.tables e below (T.setTop (mkF m (pc + 3) Ls (S))) t) : Steps p.tables e below (T.setTop (mkF m pc Ls (.int y :: .int x :: S))) t := XS.icmpNo X.here hx rfl hd rfl hc k
theorem o_len (X : Stand p l e R s m args below meth c T locs cells slots) (hx : p.tables.exec = Jvm.exec) (hZ : Z.Warmed39 s.vm) (eT : T.heap = h) {ty : FieldType} {z : Int32} (A : Arr Z h a cl ty) (Sz : cl.slots.size = z.toNatClampNeg) (Nn : ¬ z < 0) (hd : decode c.code pc = .ok (.arraylength, 1))  (k : Steps p.tables e below (T.setTop (mkF m (pc + 1) Ls (.int z :: S))) t) : Steps p.tables e below (T.setTop (mkF m pc Ls (.ref a :: S))) t := X.arraylength hx (by rw [eT]; exact A.1) (State.isArrayOf_alike hZ.alike A.2.1) (g := mkF m pc Ls (.ref a :: S)) rfl rfl hd _ (by rw [len_of Sz Nn]; exact k)
theorem o_iaload (X : Stand p l e R s m args below meth c T locs cells slots) (hx : p.tables.exec = Jvm.exec) (hZ : Z.Warmed39 s.vm) (eT : T.heap = h) {j : Int32} {v : Int32} (A : Arr Z h a cl .int) (hin : ¬ (j < 0 ∨ cl.slots.size ≤ j.toNatClampNeg)) (hat : cl.slots[j.toNatClampNeg]? = some (.int v)) (hd : decode c.code pc = .ok (.iaload, 1))  (k : Steps p.tables e below (T.setTop (mkF m (pc + 1) Ls (.int v :: S))) t) : Steps p.tables e below (T.setTop (mkF m pc Ls (.int j :: .ref a :: S))) t := X.iaload hx (j := j) (v := .int v) (by rw [eT]; exact A.1) (State.isArrayOf_alike hZ.alike A.2.1) A.2.2 hin hat (g := mkF m pc Ls (.int j :: .ref a :: S)) rfl rfl hd _ k
theorem o_laload (X : Stand p l e R s m args below meth c T locs cells slots) (hx : p.tables.exec = Jvm.exec) (hZ : Z.Warmed39 s.vm) (eT : T.heap = h) {j : Int32} {v : Int64} (A : Arr Z h a cl .long) (hin : ¬ (j < 0 ∨ cl.slots.size ≤ j.toNatClampNeg)) (hat : cl.slots[j.toNatClampNeg]? = some (.long v)) (hd : decode c.code pc = .ok (.laload, 1))  (k : Steps p.tables e below (T.setTop (mkF m (pc + 1) Ls (.long v :: S))) t) : Steps p.tables e below (T.setTop (mkF m pc Ls (.int j :: .ref a :: S))) t := X.laload hx (j := j) (v := .long v) (by rw [eT]; exact A.1) (State.isArrayOf_alike hZ.alike A.2.1) A.2.2 hin hat (g := mkF m pc Ls (.int j :: .ref a :: S)) rfl rfl hd _ k
theorem o_aaload (X : Stand p l e R s m args below meth c T locs cells slots) (hx : p.tables.exec = Jvm.exec) (hZ : Z.Warmed39 s.vm) (eT : T.heap = h) {ty : FieldType} {j : Int32} {v : Value} (A : Arr Z h a cl ty) (hr : ty.isReference = true) (hin : ¬ (j < 0 ∨ cl.slots.size ≤ j.toNatClampNeg)) (hat : cl.slots[j.toNatClampNeg]? = some v) (hd : decode c.code pc = .ok (.aaload, 1))  (k : Steps p.tables e below (T.setTop (mkF m (pc + 1) Ls (v :: S))) t) : Steps p.tables e below (T.setTop (mkF m pc Ls (.int j :: .ref a :: S))) t := X.aaload hx (j := j) (v := v) (by rw [eT]; exact A.1) (State.isArrayOf_alike hZ.alike A.2.1) hr A.2.2 hin hat (g := mkF m pc Ls (.int j :: .ref a :: S)) rfl rfl hd _ k
end Steps
section SSteps
variable {p : Program} {l : Launch} {e : Env} {R : Room} {s : State} {m : MethodId} {args : Array Value} {below : List Frame} {meth : Method} {c : Code} {T : State} {locs : List Loc} {cells slots : Nat} {pc pc' : Nat} {Ls L' : Array Slot} {S : List Value} {t : State} {Z : State} {h : Heap} {a : Addr} {cl : Cell}
theorem s_iloadN {T0 : State} {g0 : JFrame} {i : Fin 4} {v : Int32} (go : Go p e below T0 g0 T (mkF m pc Ls (S))) (X : Stand p l e R s m args below meth c T locs cells slots) (hx : p.tables.exec = Jvm.exec) (hd : decode c.code pc = .ok (.iload_n i, 1)) (hl : Ls[i.val]? = some (.val (.int v))) : Go p e below T0 g0 T (mkF m (pc + 1) Ls (.int v :: S)) := fun t_ k_ => go t_ (o_iloadN X hx hd hl k_)
theorem s_iload {T0 : State} {g0 : JFrame} {i : Nat} {v : Int32} (go : Go p e below T0 g0 T (mkF m pc Ls (S))) (X : Stand p l e R s m args below meth c T locs cells slots) (hx : p.tables.exec = Jvm.exec) (hd : decode c.code pc = .ok (.iload i, 2)) (hl : Ls[i]? = some (.val (.int v))) : Go p e below T0 g0 T (mkF m (pc + 2) Ls (.int v :: S)) := fun t_ k_ => go t_ (o_iload X hx hd hl k_)
theorem s_lloadN {T0 : State} {g0 : JFrame} {i : Fin 4} {v : Int64} (go : Go p e below T0 g0 T (mkF m pc Ls (S))) (X : Stand p l e R s m args below meth c T locs cells slots) (hx : p.tables.exec = Jvm.exec) (hd : decode c.code pc = .ok (.lload_n i, 1)) (hl : Ls[i.val]? = some (.val (.long v))) : Go p e below T0 g0 T (mkF m (pc + 1) Ls (.long v :: S)) := fun t_ k_ => go t_ (o_lloadN X hx hd hl k_)
theorem s_lload {T0 : State} {g0 : JFrame} {i : Nat} {v : Int64} (go : Go p e below T0 g0 T (mkF m pc Ls (S))) (X : Stand p l e R s m args below meth c T locs cells slots) (hx : p.tables.exec = Jvm.exec) (hd : decode c.code pc = .ok (.lload i, 2)) (hl : Ls[i]? = some (.val (.long v))) : Go p e below T0 g0 T (mkF m (pc + 2) Ls (.long v :: S)) := fun t_ k_ => go t_ (o_lload X hx hd hl k_)
theorem s_aloadN {T0 : State} {g0 : JFrame} {i : Fin 4} {v : Value} (go : Go p e below T0 g0 T (mkF m pc Ls (S))) (X : Stand p l e R s m args below meth c T locs cells slots) (hx : p.tables.exec = Jvm.exec) (hd : decode c.code pc = .ok (.aload_n i, 1)) (hl : Ls[i.val]? = some (.val v)) (hv : v.isRef = true) : Go p e below T0 g0 T (mkF m (pc + 1) Ls (v :: S)) := fun t_ k_ => go t_ (o_aloadN X hx hd hl hv k_)
theorem s_aload {T0 : State} {g0 : JFrame} {i : Nat} {v : Value} (go : Go p e below T0 g0 T (mkF m pc Ls (S))) (X : Stand p l e R s m args below meth c T locs cells slots) (hx : p.tables.exec = Jvm.exec) (hd : decode c.code pc = .ok (.aload i, 2)) (hl : Ls[i]? = some (.val v)) (hv : v.isRef = true) : Go p e below T0 g0 T (mkF m (pc + 2) Ls (v :: S)) := fun t_ k_ => go t_ (o_aload X hx hd hl hv k_)
theorem s_istoreN {T0 : State} {g0 : JFrame} {i : Fin 4} {v : Int32} (go : Go p e below T0 g0 T (mkF m pc Ls (.int v :: S))) (X : Stand p l e R s m args below meth c T locs cells slots) (hx : p.tables.exec = Jvm.exec) (hd : decode c.code pc = .ok (.istore_n i, 1)) (hl : storeLocals Ls i.val (.int v) = some L') : Go p e below T0 g0 T (mkF m (pc + 1) L' (S)) := fun t_ k_ => go t_ (o_istoreN X hx hd hl k_)
theorem s_istore {T0 : State} {g0 : JFrame} {i : Nat} {v : Int32} (go : Go p e below T0 g0 T (mkF m pc Ls (.int v :: S))) (X : Stand p l e R s m args below meth c T locs cells slots) (hx : p.tables.exec = Jvm.exec) (hd : decode c.code pc = .ok (.istore i, 2)) (hl : storeLocals Ls i (.int v) = some L') : Go p e below T0 g0 T (mkF m (pc + 2) L' (S)) := fun t_ k_ => go t_ (o_istore X hx hd hl k_)
theorem s_lstore {T0 : State} {g0 : JFrame} {i : Nat} {v : Int64} (go : Go p e below T0 g0 T (mkF m pc Ls (.long v :: S))) (X : Stand p l e R s m args below meth c T locs cells slots) (hx : p.tables.exec = Jvm.exec) (hd : decode c.code pc = .ok (.lstore i, 2)) (hl : storeLocals Ls i (.long v) = some L') : Go p e below T0 g0 T (mkF m (pc + 2) L' (S)) := fun t_ k_ => go t_ (o_lstore X hx hd hl k_)
theorem s_astoreN {T0 : State} {g0 : JFrame} {i : Fin 4} {v : Value} (go : Go p e below T0 g0 T (mkF m pc Ls (v :: S))) (X : Stand p l e R s m args below meth c T locs cells slots) (hx : p.tables.exec = Jvm.exec) (hd : decode c.code pc = .ok (.astore_n i, 1)) (hv : v.isRef = true) (hl : storeLocals Ls i.val v = some L') : Go p e below T0 g0 T (mkF m (pc + 1) L' (S)) := fun t_ k_ => go t_ (o_astoreN X hx hd hv hl k_)
theorem s_astore {T0 : State} {g0 : JFrame} {i : Nat} {v : Value} (go : Go p e below T0 g0 T (mkF m pc Ls (v :: S))) (X : Stand p l e R s m args below meth c T locs cells slots) (hx : p.tables.exec = Jvm.exec) (hd : decode c.code pc = .ok (.astore i, 2)) (hv : v.isRef = true) (hl : storeLocals Ls i v = some L') : Go p e below T0 g0 T (mkF m (pc + 2) L' (S)) := fun t_ k_ => go t_ (o_astore X hx hd hv hl k_)
theorem s_iconst {T0 : State} {g0 : JFrame} {i : Int} {v : Int32} (go : Go p e below T0 g0 T (mkF m pc Ls (S))) (X : Stand p l e R s m args below meth c T locs cells slots) (hx : p.tables.exec = Jvm.exec) (hd : decode c.code pc = .ok (.iconst i, 1)) (hv : v = Int32.ofInt i) : Go p e below T0 g0 T (mkF m (pc + 1) Ls (.int v :: S)) := fun t_ k_ => go t_ (o_iconst X hx hd hv k_)
theorem s_bipush {T0 : State} {g0 : JFrame} {i : Int} {v : Int32} (go : Go p e below T0 g0 T (mkF m pc Ls (S))) (X : Stand p l e R s m args below meth c T locs cells slots) (hx : p.tables.exec = Jvm.exec) (hd : decode c.code pc = .ok (.bipush i, 2)) (hv : v = (Int8.ofInt i).toInt32) : Go p e below T0 g0 T (mkF m (pc + 2) Ls (.int v :: S)) := fun t_ k_ => go t_ (o_bipush X hx hd hv k_)
theorem s_sipush {T0 : State} {g0 : JFrame} {i : Int} {v : Int32} (go : Go p e below T0 g0 T (mkF m pc Ls (S))) (X : Stand p l e R s m args below meth c T locs cells slots) (hx : p.tables.exec = Jvm.exec) (hd : decode c.code pc = .ok (.sipush i, 3)) (hv : v = (Int16.ofInt i).toInt32) : Go p e below T0 g0 T (mkF m (pc + 3) Ls (.int v :: S)) := fun t_ k_ => go t_ (o_sipush X hx hd hv k_)
theorem s_lconst {T0 : State} {g0 : JFrame} {i : Fin 2} {v : Int64} (go : Go p e below T0 g0 T (mkF m pc Ls (S))) (X : Stand p l e R s m args below meth c T locs cells slots) (hx : p.tables.exec = Jvm.exec) (hd : decode c.code pc = .ok (.lconst i, 1)) (hv : v = Int64.ofNat i) : Go p e below T0 g0 T (mkF m (pc + 1) Ls (.long v :: S)) := fun t_ k_ => go t_ (o_lconst X hx hd hv k_)
theorem s_ldcw {T0 : State} {g0 : JFrame} {own : String} {i : Nat} {v : Int32} (go : Go p e below T0 g0 T (mkF m pc Ls (S))) (X : Stand p l e R s m args below meth c T locs cells slots) (hx : p.tables.exec = Jvm.exec) (ho : s.vm.findClass own = some m.cls) (w : (Cond.constant own i v).before args s = true) (hd : decode c.code pc = .ok (.ldc_w i, 3)) : Go p e below T0 g0 T (mkF m (pc + 3) Ls (.int v :: S)) := fun t_ k_ => go t_ (o_ldcw X hx ho w hd k_)
theorem s_ldc2 {T0 : State} {g0 : JFrame} {own : String} {i : Nat} {v : Int64} (go : Go p e below T0 g0 T (mkF m pc Ls (S))) (X : Stand p l e R s m args below meth c T locs cells slots) (hx : p.tables.exec = Jvm.exec) (ho : s.vm.findClass own = some m.cls) (w : (Cond.constantLong own i v).before args s = true) (hd : decode c.code pc = .ok (.ldc2_w i, 3)) : Go p e below T0 g0 T (mkF m (pc + 3) Ls (.long v :: S)) := fun t_ k_ => go t_ (o_ldc2 X hx ho w hd k_)
theorem s_iadd {T0 : State} {g0 : JFrame} {x y : Int32} (go : Go p e below T0 g0 T (mkF m pc Ls (.int y :: .int x :: S))) (X : Stand p l e R s m args below meth c T locs cells slots) (hx : p.tables.exec = Jvm.exec) (hd : decode c.code pc = .ok (.iadd, 1)) : Go p e below T0 g0 T (mkF m (pc + 1) Ls (.int (x + y) :: S)) := fun t_ k_ => go t_ (o_iadd X hx hd k_)
theorem s_iaddE {T0 : State} {g0 : JFrame} {x y v : Int32} (go : Go p e below T0 g0 T (mkF m pc Ls (.int y :: .int x :: S))) (X : Stand p l e R s m args below meth c T locs cells slots) (hx : p.tables.exec = Jvm.exec) (hd : decode c.code pc = .ok (.iadd, 1)) (hv : v = x + y) : Go p e below T0 g0 T (mkF m (pc + 1) Ls (.int v :: S)) := fun t_ k_ => go t_ (o_iaddE X hx hd hv k_)
theorem s_ladd {T0 : State} {g0 : JFrame} {x y : Int64} (go : Go p e below T0 g0 T (mkF m pc Ls (.long y :: .long x :: S))) (X : Stand p l e R s m args below meth c T locs cells slots) (hx : p.tables.exec = Jvm.exec) (hd : decode c.code pc = .ok (.ladd, 1)) : Go p e below T0 g0 T (mkF m (pc + 1) Ls (.long (x + y) :: S)) := fun t_ k_ => go t_ (o_ladd X hx hd k_)
theorem s_laddE {T0 : State} {g0 : JFrame} {x y v : Int64} (go : Go p e below T0 g0 T (mkF m pc Ls (.long y :: .long x :: S))) (X : Stand p l e R s m args below meth c T locs cells slots) (hx : p.tables.exec = Jvm.exec) (hd : decode c.code pc = .ok (.ladd, 1)) (hv : v = x + y) : Go p e below T0 g0 T (mkF m (pc + 1) Ls (.long v :: S)) := fun t_ k_ => go t_ (o_laddE X hx hd hv k_)
theorem s_isub {T0 : State} {g0 : JFrame} {x y : Int32} (go : Go p e below T0 g0 T (mkF m pc Ls (.int y :: .int x :: S))) (X : Stand p l e R s m args below meth c T locs cells slots) (hx : p.tables.exec = Jvm.exec) (hd : decode c.code pc = .ok (.isub, 1)) : Go p e below T0 g0 T (mkF m (pc + 1) Ls (.int (x - y) :: S)) := fun t_ k_ => go t_ (o_isub X hx hd k_)
theorem s_isubE {T0 : State} {g0 : JFrame} {x y v : Int32} (go : Go p e below T0 g0 T (mkF m pc Ls (.int y :: .int x :: S))) (X : Stand p l e R s m args below meth c T locs cells slots) (hx : p.tables.exec = Jvm.exec) (hd : decode c.code pc = .ok (.isub, 1)) (hv : v = x - y) : Go p e below T0 g0 T (mkF m (pc + 1) Ls (.int v :: S)) := fun t_ k_ => go t_ (o_isubE X hx hd hv k_)
theorem s_lsub {T0 : State} {g0 : JFrame} {x y : Int64} (go : Go p e below T0 g0 T (mkF m pc Ls (.long y :: .long x :: S))) (X : Stand p l e R s m args below meth c T locs cells slots) (hx : p.tables.exec = Jvm.exec) (hd : decode c.code pc = .ok (.lsub, 1)) : Go p e below T0 g0 T (mkF m (pc + 1) Ls (.long (x - y) :: S)) := fun t_ k_ => go t_ (o_lsub X hx hd k_)
theorem s_lsubE {T0 : State} {g0 : JFrame} {x y v : Int64} (go : Go p e below T0 g0 T (mkF m pc Ls (.long y :: .long x :: S))) (X : Stand p l e R s m args below meth c T locs cells slots) (hx : p.tables.exec = Jvm.exec) (hd : decode c.code pc = .ok (.lsub, 1)) (hv : v = x - y) : Go p e below T0 g0 T (mkF m (pc + 1) Ls (.long v :: S)) := fun t_ k_ => go t_ (o_lsubE X hx hd hv k_)
theorem s_imul {T0 : State} {g0 : JFrame} {x y : Int32} (go : Go p e below T0 g0 T (mkF m pc Ls (.int y :: .int x :: S))) (X : Stand p l e R s m args below meth c T locs cells slots) (hx : p.tables.exec = Jvm.exec) (hd : decode c.code pc = .ok (.imul, 1)) : Go p e below T0 g0 T (mkF m (pc + 1) Ls (.int (x * y) :: S)) := fun t_ k_ => go t_ (o_imul X hx hd k_)
theorem s_imulE {T0 : State} {g0 : JFrame} {x y v : Int32} (go : Go p e below T0 g0 T (mkF m pc Ls (.int y :: .int x :: S))) (X : Stand p l e R s m args below meth c T locs cells slots) (hx : p.tables.exec = Jvm.exec) (hd : decode c.code pc = .ok (.imul, 1)) (hv : v = x * y) : Go p e below T0 g0 T (mkF m (pc + 1) Ls (.int v :: S)) := fun t_ k_ => go t_ (o_imulE X hx hd hv k_)
theorem s_lmul {T0 : State} {g0 : JFrame} {x y : Int64} (go : Go p e below T0 g0 T (mkF m pc Ls (.long y :: .long x :: S))) (X : Stand p l e R s m args below meth c T locs cells slots) (hx : p.tables.exec = Jvm.exec) (hd : decode c.code pc = .ok (.lmul, 1)) : Go p e below T0 g0 T (mkF m (pc + 1) Ls (.long (x * y) :: S)) := fun t_ k_ => go t_ (o_lmul X hx hd k_)
theorem s_iand {T0 : State} {g0 : JFrame} {x y : Int32} (go : Go p e below T0 g0 T (mkF m pc Ls (.int y :: .int x :: S))) (X : Stand p l e R s m args below meth c T locs cells slots) (hx : p.tables.exec = Jvm.exec) (hd : decode c.code pc = .ok (.iand, 1)) : Go p e below T0 g0 T (mkF m (pc + 1) Ls (.int (x &&& y) :: S)) := fun t_ k_ => go t_ (o_iand X hx hd k_)
theorem s_land {T0 : State} {g0 : JFrame} {x y : Int64} (go : Go p e below T0 g0 T (mkF m pc Ls (.long y :: .long x :: S))) (X : Stand p l e R s m args below meth c T locs cells slots) (hx : p.tables.exec = Jvm.exec) (hd : decode c.code pc = .ok (.land, 1)) : Go p e below T0 g0 T (mkF m (pc + 1) Ls (.long (x &&& y) :: S)) := fun t_ k_ => go t_ (o_land X hx hd k_)
theorem s_ior {T0 : State} {g0 : JFrame} {x y : Int32} (go : Go p e below T0 g0 T (mkF m pc Ls (.int y :: .int x :: S))) (X : Stand p l e R s m args below meth c T locs cells slots) (hx : p.tables.exec = Jvm.exec) (hd : decode c.code pc = .ok (.ior, 1)) : Go p e below T0 g0 T (mkF m (pc + 1) Ls (.int (x ||| y) :: S)) := fun t_ k_ => go t_ (o_ior X hx hd k_)
theorem s_i2l {T0 : State} {g0 : JFrame} {x : Int32} (go : Go p e below T0 g0 T (mkF m pc Ls (.int x :: S))) (X : Stand p l e R s m args below meth c T locs cells slots) (hx : p.tables.exec = Jvm.exec) (hd : decode c.code pc = .ok (.i2l, 1)) : Go p e below T0 g0 T (mkF m (pc + 1) Ls (.long (x.toInt64) :: S)) := fun t_ k_ => go t_ (o_i2l X hx hd k_)
theorem s_i2lE {T0 : State} {g0 : JFrame} {x : Int32} {v : Int64} (go : Go p e below T0 g0 T (mkF m pc Ls (.int x :: S))) (X : Stand p l e R s m args below meth c T locs cells slots) (hx : p.tables.exec = Jvm.exec) (hd : decode c.code pc = .ok (.i2l, 1)) (hv : v = x.toInt64) : Go p e below T0 g0 T (mkF m (pc + 1) Ls (.long v :: S)) := fun t_ k_ => go t_ (o_i2lE X hx hd hv k_)
theorem s_l2iE {T0 : State} {g0 : JFrame} {x : Int64} {v : Int32} (go : Go p e below T0 g0 T (mkF m pc Ls (.long x :: S))) (X : Stand p l e R s m args below meth c T locs cells slots) (hx : p.tables.exec = Jvm.exec) (hd : decode c.code pc = .ok (.l2i, 1)) (hv : v = x.toInt32) : Go p e below T0 g0 T (mkF m (pc + 1) Ls (.int v :: S)) := fun t_ k_ => go t_ (o_l2iE X hx hd hv k_)
theorem s_iushr {T0 : State} {g0 : JFrame} {x : Int32} {y : Int32} (go : Go p e below T0 g0 T (mkF m pc Ls (.int y :: .int x :: S))) (X : Stand p l e R s m args below meth c T locs cells slots) (hx : p.tables.exec = Jvm.exec) (hd : decode c.code pc = .ok (.iushr, 1)) : Go p e below T0 g0 T (mkF m (pc + 1) Ls (.int ((x.toUInt32 >>> (y &&& 31).toUInt32).toInt32) :: S)) := fun t_ k_ => go t_ (o_iushr X hx hd k_)
theorem s_iushrE {T0 : State} {g0 : JFrame} {x v : Int32} {y : Int32} (go : Go p e below T0 g0 T (mkF m pc Ls (.int y :: .int x :: S))) (X : Stand p l e R s m args below meth c T locs cells slots) (hx : p.tables.exec = Jvm.exec) (hd : decode c.code pc = .ok (.iushr, 1)) (hv : v = ((x.toUInt32 >>> (y &&& 31).toUInt32).toInt32)) : Go p e below T0 g0 T (mkF m (pc + 1) Ls (.int v :: S)) := fun t_ k_ => go t_ (o_iushrE X hx hd hv k_)
theorem s_lushr {T0 : State} {g0 : JFrame} {x : Int64} {y : Int32} (go : Go p e below T0 g0 T (mkF m pc Ls (.int y :: .long x :: S))) (X : Stand p l e R s m args below meth c T locs cells slots) (hx : p.tables.exec = Jvm.exec) (hd : decode c.code pc = .ok (.lushr, 1)) : Go p e below T0 g0 T (mkF m (pc + 1) Ls (.long ((x.toUInt64 >>> (y &&& 0x3f).toInt64.toUInt64).toInt64) :: S)) := fun t_ k_ => go t_ (o_lushr X hx hd k_)
theorem s_lcmp {T0 : State} {g0 : JFrame} {x y : Int64} (go : Go p e below T0 g0 T (mkF m pc Ls (.long y :: .long x :: S))) (X : Stand p l e R s m args below meth c T locs cells slots) (hx : p.tables.exec = Jvm.exec) (hd : decode c.code pc = .ok (.lcmp, 1)) : Go p e below T0 g0 T (mkF m (pc + 1) Ls (.int (lcmpW x y) :: S)) := fun t_ k_ => go t_ (o_lcmp X hx hd k_)
theorem s_idivE {T0 : State} {g0 : JFrame} {x y v : Int32} (go : Go p e below T0 g0 T (mkF m pc Ls (.int y :: .int x :: S))) (X : Stand p l e R s m args below meth c T locs cells slots) (hx : p.tables.exec = Jvm.exec) (hd : decode c.code pc = .ok (.idiv, 1)) (hy : y ≠ 0) (hv : v = x / y) : Go p e below T0 g0 T (mkF m (pc + 1) Ls (.int v :: S)) := fun t_ k_ => go t_ (o_idivE X hx hd hy hv k_)
theorem s_lremE {T0 : State} {g0 : JFrame} {x y v : Int64} (go : Go p e below T0 g0 T (mkF m pc Ls (.long y :: .long x :: S))) (X : Stand p l e R s m args below meth c T locs cells slots) (hx : p.tables.exec = Jvm.exec) (hd : decode c.code pc = .ok (.lrem, 1)) (hy : y ≠ 0) (hv : v = x - (x / y) * y) : Go p e below T0 g0 T (mkF m (pc + 1) Ls (.long v :: S)) := fun t_ k_ => go t_ (o_lremE X hx hd hy hv k_)
theorem s_iinc {T0 : State} {g0 : JFrame} {i : Nat} {cst : Int} {x : Int32} (go : Go p e below T0 g0 T (mkF m pc Ls (S))) (X : Stand p l e R s m args below meth c T locs cells slots) (hx : p.tables.exec = Jvm.exec) (hd : decode c.code pc = .ok (.iinc i cst, 3)) (hl : Ls[i]? = some (.val (.int x))) (hl' : storeLocals Ls i (.int (x + Int32.ofInt cst)) = some L') : Go p e below T0 g0 T (mkF m (pc + 3) L' (S)) := fun t_ k_ => go t_ (o_iinc X hx hd hl hl' k_)
theorem s_dup {T0 : State} {g0 : JFrame} {x : Value} (go : Go p e below T0 g0 T (mkF m pc Ls (x :: S))) (X : Stand p l e R s m args below meth c T locs cells slots) (hx : p.tables.exec = Jvm.exec) (hd : decode c.code pc = .ok (.dup, 1)) (hc : x.category = 1) : Go p e below T0 g0 T (mkF m (pc + 1) Ls (x :: x :: S)) := fun t_ k_ => go t_ (o_dup X hx hd hc k_)
theorem s_dupX1 {T0 : State} {g0 : JFrame} {x y : Value} (go : Go p e below T0 g0 T (mkF m pc Ls (x :: y :: S))) (X : Stand p l e R s m args below meth c T locs cells slots) (hx : p.tables.exec = Jvm.exec) (hd : decode c.code pc = .ok (.dup_x1, 1)) (hc : x.category = 1) (hc' : y.category = 1) : Go p e below T0 g0 T (mkF m (pc + 1) Ls (x :: y :: x :: S)) := fun t_ k_ => go t_ (o_dupX1 X hx hd hc hc' k_)
theorem s_dup2 {T0 : State} {g0 : JFrame} {x y : Value} (go : Go p e below T0 g0 T (mkF m pc Ls (x :: y :: S))) (X : Stand p l e R s m args below meth c T locs cells slots) (hx : p.tables.exec = Jvm.exec) (hd : decode c.code pc = .ok (.dup2, 1)) (hc : x.category = 1) (hc' : y.category = 1) : Go p e below T0 g0 T (mkF m (pc + 1) Ls (x :: y :: x :: y :: S)) := fun t_ k_ => go t_ (o_dup2 X hx hd hc hc' k_)
theorem s_goto {T0 : State} {g0 : JFrame} {o : Int} (go : Go p e below T0 g0 T (mkF m pc Ls (S))) (X : Stand p l e R s m args below meth c T locs cells slots) (hx : p.tables.exec = Jvm.exec) (hd : decode c.code pc = .ok (.goto o, 3)) (hp : ((pc : Int) + o).toNat = pc') (ho : 0 ≤ (pc : Int) + o) : Go p e below T0 g0 T (mkF m (pc') Ls (S)) := fun t_ k_ => go t_ (o_goto X hx hd hp ho k_)
theorem s_ifYes {T0 : State} {g0 : JFrame} {cd : ClassFile.Cond} {x : Int32} {o : Int} (go : Go p e below T0 g0 T (mkF m pc Ls (.int x :: S))) (X : Stand p l e R s m args below meth c T locs cells slots) (hx : p.tables.exec = Jvm.exec) (hd : decode c.code pc = .ok (.ifCond cd o, 3)) (hp : ((pc : Int) + o).toNat = pc') (ho : 0 ≤ (pc : Int) + o) (hc : ifCond.holds cd x = true) : Go p e below T0 g0 T (mkF m (pc') Ls (S)) := fun t_ k_ => go t_ (o_ifYes X hx hd hp ho hc k_)
theorem s_ifNo {T0 : State} {g0 : JFrame} {cd : ClassFile.Cond} {x : Int32} {o : Int} (go : Go p e below T0 g0 T (mkF m pc Ls (.int x :: S))) (X : Stand p l e R s m args below meth c T locs cells slots) (hx : p.tables.exec = Jvm.exec) (hd : decode c.code pc = .ok (.ifCond cd o, 3)) (hc : ifCond.holds cd x = false) : Go p e below T0 g0 T (mkF m (pc + 3) Ls (S)) := fun t_ k_ => go t_ (o_ifNo X hx hd hc k_)
theorem s_icmpYes {T0 : State} {g0 : JFrame} {cd : ClassFile.Cond} {x y : Int32} {o : Int} (go : Go p e below T0 g0 T (mkF m pc Ls (.int y :: .int x :: S))) (X : Stand p l e R s m args below meth c T locs cells slots) (hx : p.tables.exec = Jvm.exec) (hd : decode c.code pc = .ok (.if_icmp cd o, 3)) (hp : ((pc : Int) + o).toNat = pc') (ho : 0 ≤ (pc : Int) + o) (hc : if_icmp.holds cd x y = true) : Go p e below T0 g0 T (mkF m (pc') Ls (S)) := fun t_ k_ => go t_ (o_icmpYes X hx hd hp ho hc k_)
theorem s_icmpNo {T0 : State} {g0 : JFrame} {cd : ClassFile.Cond} {x y : Int32} {o : Int} (go : Go p e below T0 g0 T (mkF m pc Ls (.int y :: .int x :: S))) (X : Stand p l e R s m args below meth c T locs cells slots) (hx : p.tables.exec = Jvm.exec) (hd : decode c.code pc = .ok (.if_icmp cd o, 3)) (hc : if_icmp.holds cd x y = false) : Go p e below T0 g0 T (mkF m (pc + 3) Ls (S)) := fun t_ k_ => go t_ (o_icmpNo X hx hd hc k_)
theorem s_len {T0 : State} {g0 : JFrame} {ty : FieldType} {z : Int32} (go : Go p e below T0 g0 T (mkF m pc Ls (.ref a :: S))) (X : Stand p l e R s m args below meth c T locs cells slots) (hx : p.tables.exec = Jvm.exec) (hZ : Z.Warmed39 s.vm) (eT : T.heap = h) (A : Arr Z h a cl ty) (Sz : cl.slots.size = z.toNatClampNeg) (Nn : ¬ z < 0) (hd : decode c.code pc = .ok (.arraylength, 1)) : Go p e below T0 g0 T (mkF m (pc + 1) Ls (.int z :: S)) := fun t_ k_ => go t_ (o_len X hx hZ eT A Sz Nn hd k_)
theorem s_laload {T0 : State} {g0 : JFrame} {j : Int32} {v : Int64} (go : Go p e below T0 g0 T (mkF m pc Ls (.int j :: .ref a :: S))) (X : Stand p l e R s m args below meth c T locs cells slots) (hx : p.tables.exec = Jvm.exec) (hZ : Z.Warmed39 s.vm) (eT : T.heap = h) (A : Arr Z h a cl .long) (hin : ¬ (j < 0 ∨ cl.slots.size ≤ j.toNatClampNeg)) (hat : cl.slots[j.toNatClampNeg]? = some (.long v)) (hd : decode c.code pc = .ok (.laload, 1)) : Go p e below T0 g0 T (mkF m (pc + 1) Ls (.long v :: S)) := fun t_ k_ => go t_ (o_laload X hx hZ eT A hin hat hd k_)
theorem s_aaload {T0 : State} {g0 : JFrame} {ty : FieldType} {j : Int32} {v : Value} (go : Go p e below T0 g0 T (mkF m pc Ls (.int j :: .ref a :: S))) (X : Stand p l e R s m args below meth c T locs cells slots) (hx : p.tables.exec = Jvm.exec) (hZ : Z.Warmed39 s.vm) (eT : T.heap = h) (A : Arr Z h a cl ty) (hr : ty.isReference = true) (hin : ¬ (j < 0 ∨ cl.slots.size ≤ j.toNatClampNeg)) (hat : cl.slots[j.toNatClampNeg]? = some v) (hd : decode c.code pc = .ok (.aaload, 1)) : Go p e below T0 g0 T (mkF m (pc + 1) Ls (v :: S)) := fun t_ k_ => go t_ (o_aaload X hx hZ eT A hr hin hat hd k_)
end SSteps

abbrev dBl : String := "Lcom/example/slackline/slackline/replay/Steps$Block;"
abbrev dCh : String := "[Lcom/example/slackline/slackline/replay/Steps$Chunk;"
section Own3
variable {p : Program} {l : Launch} {e : Env} {R : Room} {s : State} {m : MethodId} {args : Array Value} {below : List Frame} {meth : Method} {c : Code} {T : State} {locs : List Loc} {cells slots : Nat} {Z : State} {a0 : Array Value} {h h' h'' h0 : Heap} {a b o : Addr} {n n' : Int32} {C C' f f' d d' : String} {v w : Value} {sl : Nat}
/-- a long[] of n places -/
def LJ (Z : State) (h : Heap) (a : Addr) (n : Int32) : Prop := ∃ cl : Cell, Arr Z h a cl .long ∧ cl.slots.size = n.toNatClampNeg ∧ ¬ n < 0 ∧ ∀ i, i < cl.slots.size → ∃ x : Int64, cl.slots[i]? = some (.long x)
/-- an int[] of n places -/
def LI (Z : State) (h : Heap) (a : Addr) (n : Int32) : Prop := ∃ cl : Cell, Arr Z h a cl .int ∧ cl.slots.size = n.toNatClampNeg ∧ ¬ n < 0 ∧ ∀ i, i < cl.slots.size → ∃ x : Int32, cl.slots[i]? = some (.int x)
theorem LJ.lt (F : LJ Z h a n) : a < h.size := by obtain ⟨cl, A, -⟩ := F; exact A.lt
theorem LI.lt (F : LI Z h a n) : a < h.size := by obtain ⟨cl, A, -⟩ := F; exact A.lt
theorem LJ.same (F : LJ Z h a n) (q : h'[a]? = h[a]?) : LJ Z h' a n := by obtain ⟨cl, A, r⟩ := F; exact ⟨cl, ⟨q.trans A.1, A.2⟩, r⟩
theorem LI.same (F : LI Z h a n) (q : h'[a]? = h[a]?) : LI Z h' a n := by obtain ⟨cl, A, r⟩ := F; exact ⟨cl, ⟨q.trans A.1, A.2⟩, r⟩
theorem LJ.of_arv {k : ClassId} {vs : List Value} {dv : Value} (V : Arv Z h a k .long n vs dv) : LJ Z h a n := by
  obtain ⟨cl, A, -, S, N, H, G⟩ := V
  refine ⟨cl, A, S, N, fun i hi => ?_⟩
  obtain ⟨x, hx⟩ := fit_J (G i hi)
  exact ⟨x, by rw [H i hi, hx]⟩
theorem LI.of_arv {k : ClassId} {vs : List Value} {dv : Value} (V : Arv Z h a k .int n vs dv) : LI Z h a n := by
  obtain ⟨cl, A, -, S, N, H, G⟩ := V
  refine ⟨cl, A, S, N, fun i hi => ?_⟩
  obtain ⟨x, hx⟩ := fit_I (G i hi) (by simp)
  exact ⟨x, by rw [H i hi, hx]⟩
theorem LJ.arv (F : LJ Z h a n) : ∃ (k : ClassId) (vs : List Value), Arv Z h a k .long n vs (.long 0) ∧ vs.length = n.toNatClampNeg := by
  obtain ⟨cl, A, S, N, H⟩ := F
  have e : ∀ i, i < cl.slots.size → cl.slots[i]? = some (cl.slots.toList.getD i (.long 0)) := fun i hi => by
    rw [List.getD_eq_getElem?_getD, Array.getElem?_toList, Array.getElem?_eq_getElem hi]; rfl
  refine ⟨cl.cls, cl.slots.toList, ⟨cl, A, rfl, S, N, e, fun i hi => ?_⟩, by rw [Array.length_toList]; exact S⟩
  obtain ⟨x, hx⟩ := H i hi
  rw [e i hi] at hx
  rw [Option.some.inj hx]; rfl
theorem LI.arv (F : LI Z h a n) : ∃ (k : ClassId) (vs : List Value), Arv Z h a k .int n vs (.int 0) ∧ vs.length = n.toNatClampNeg := by
  obtain ⟨cl, A, S, N, H⟩ := F
  have e : ∀ i, i < cl.slots.size → cl.slots[i]? = some (cl.slots.toList.getD i (.int 0)) := fun i hi => by
    rw [List.getD_eq_getElem?_getD, Array.getElem?_toList, Array.getElem?_eq_getElem hi]; rfl
  refine ⟨cl.cls, cl.slots.toList, ⟨cl, A, rfl, S, N, e, fun i hi => ?_⟩, by rw [Array.length_toList]; exact S⟩
  obtain ⟨x, hx⟩ := H i hi
  rw [e i hi] at hx
  rw [Option.some.inj hx]; rfl
theorem LJ.wr {x : Int64} (F : LJ Z h b n) (W : Wr h h' a sl (.long x)) : LJ Z h' b n := by
  obtain ⟨cl, A, S, N, H⟩ := F
  obtain ⟨cb, e1, e2, e3, e4, e5, e6, e7⟩ := wr_at W A.1
  by_cases q : b = a
  · have e8 := e7 q
    refine ⟨cb, ⟨e1, ?_, by rw [e3]; exact A.2.2⟩, by rw [e4]; exact S, N, fun i hi => ?_⟩
    · rw [e8.1]; exact A.2.1
    · by_cases u : i = sl
      · subst u; exact ⟨x, e8.2.1⟩
      · rw [e6 i u]; exact H i (by rw [← e4]; exact hi)
  · rw [e5 q] at e1; exact ⟨cl, ⟨e1, A.2⟩, S, N, H⟩
theorem LI.wr {x : Int32} (F : LI Z h b n) (W : Wr h h' a sl (.int x)) : LI Z h' b n := by
  obtain ⟨cl, A, S, N, H⟩ := F
  obtain ⟨cb, e1, e2, e3, e4, e5, e6, e7⟩ := wr_at W A.1
  by_cases q : b = a
  · have e8 := e7 q
    refine ⟨cb, ⟨e1, ?_, by rw [e3]; exact A.2.2⟩, by rw [e4]; exact S, N, fun i hi => ?_⟩
    · rw [e8.1]; exact A.2.1
    · by_cases u : i = sl
      · subst u; exact ⟨x, e8.2.1⟩
      · rw [e6 i u]; exact H i (by rw [← e4]; exact hi)
  · rw [e5 q] at e1; exact ⟨cl, ⟨e1, A.2⟩, S, N, H⟩
theorem wr_out (W : Wr h h' a sl v) : ∀ x, x ≠ a → h'[x]? = h[x]? := fun x q => by
  obtain ⟨cell, -, -, -, rfl⟩ := W
  exact Array.getElem?_setIfInBounds_ne (Ne.symm q)
/-- arrays of unlike kinds -/
theorem arr_ty {cl : Cell} {ty ty' : FieldType} {cl' : Cell} (A : Arr Z h a cl ty) (B : Arr Z h a cl' ty') : ty = ty' := by
  have e : cl = cl' := Option.some.inj (A.1.symm.trans B.1)
  subst e
  obtain ⟨-, k1, h1, c1, j1⟩ := A.2.1
  obtain ⟨-, k2, h2, c2, j2⟩ := B.2.1
  cases h1.symm.trans h2
  rw [j1] at j2
  injection j2
/-- a field of an object that is exactly of class C, which lays it -/
def FE (Z : State) (a0 : Array Value) (h : Heap) (a : Addr) (C f d : String) (v : Value) : Prop := Exa Z h a C ∧ Fld Z h a C f d v ∧ Laid Z a0 C C f d ∧ (∃ t, parseFieldDescriptor d = some t) ∧ ∃ k, (Cond.instantiable C k).before a0 Z = true
theorem FE.lt (F : FE Z a0 h a C f d v) : a < h.size := F.1.lt
theorem exaS (F : Exa Z h a C) (q : h'[a]? = h[a]?) : Exa Z h' a C := by obtain ⟨cell, k, h1, r⟩ := F; exact ⟨cell, k, q.trans h1, r⟩
theorem fldS (F : Fld Z h a C f d v) (q : h'[a]? = h[a]?) : Fld Z h' a C f d v := by obtain ⟨cell, cf, k, i, g, h1, r⟩ := F; exact ⟨cell, cf, k, i, g, q.trans h1, r⟩
theorem FE.same (F : FE Z a0 h a C f d v) (q : h'[a]? = h[a]?) : FE Z a0 h' a C f d v := ⟨exaS F.1 q, fldS F.2.1 q, F.2.2⟩
theorem FE.neArr {cl : Cell} {ty : FieldType} (F : FE Z a0 h a C f d v) (A : Arr Z h b cl ty) : a ≠ b := by
  obtain ⟨k, hk⟩ := F.2.2.2.2
  exact ne_arr F.1 hk A
theorem FE.neJ (F : FE Z a0 h a C f d v) (A : LJ Z h b n) : a ≠ b := by obtain ⟨cl, A, -⟩ := A; exact F.neArr A
theorem FE.neI (F : FE Z a0 h a C f d v) (A : LI Z h b n) : a ≠ b := by obtain ⟨cl, A, -⟩ := A; exact F.neArr A
/-- another field is written -/
theorem FE.wr {w0 : Value} (F : FE Z a0 h a C f d v) (G : FE Z a0 h o C' f' d' w0) (W : Wr h h' o (Jvm.RoadKit.slotOf Z C' f' d') w) (q : f ≠ f') : FE Z a0 h' a C f d v := by
  refine ⟨F.1.wr W, F.2.1.other W ?_, F.2.2⟩
  by_cases e : a = o
  · subst e
    by_cases u : C = C'
    · subst u
      obtain ⟨t, ht⟩ := F.2.2.2.1
      obtain ⟨t', ht'⟩ := G.2.2.2.1
      exact Or.inr (slot_ne F.2.2.1 G.2.2.1 q ht ht')
    · exact absurd rfl (ne_exa F.1 G.1 u)
  · exact Or.inl e
/-- another object's field is written -/
theorem FE.wrO {w0 : Value} (F : FE Z a0 h a C f d v) (G : FE Z a0 h o C' f' d' w0) (W : Wr h h' o (Jvm.RoadKit.slotOf Z C' f' d') w) (q : a ≠ o) : FE Z a0 h' a C f d v :=
  ⟨F.1.wr W, F.2.1.other W (Or.inl q), F.2.2⟩
theorem FE.self {w0 : Value} (G : FE Z a0 h o C' f' d' w0) (W : Wr h h' o (Jvm.RoadKit.slotOf Z C' f' d') w) : FE Z a0 h' o C' f' d' w := ⟨G.1.wr W, Fld.same W G.2.1, G.2.2⟩
theorem FE.inj {w0 : Value} (F : FE Z a0 h a C f d v) (G : FE Z a0 h a C f d w0) : v = w0 := by
  by_cases q : v = w0
  · exact q
  · exact absurd rfl (F.2.1.ne G.2.1 q)
/-- the fields that the walks write while the steps stand -/
def VolI : List String := ["lastFloor", "splitChunk", "splitStep", "peaksHigh", "size", "chunkCount", "count"]
def Vol : List String := "version" :: VolI
def dI (f : String) : String := if f = "peaksHigh" then "Z" else "I"
theorem ver_no {f : String} (q : f ∈ VolI) : "version" ≠ f := by
  intro e; subst e; revert q; decide
/-- what a stretch leaves as it was, but for the fields of D (an array of objects: "[]") -/
def Pres (Z : State) (a0 : Array Value) (h h' : Heap) (D : List (Addr × String)) : Prop :=
  h.size ≤ h'.size ∧ (∀ a C, Exa Z h a C → Exa Z h' a C) ∧ (∀ a n, LJ Z h a n → LJ Z h' a n) ∧ (∀ a n, LI Z h a n → LI Z h' a n) ∧
  (∀ a C f d v, (a, f) ∉ D → FE Z a0 h a C f d v → FE Z a0 h' a C f d v) ∧
  (∀ a C, (∃ x : Int64, FE Z a0 h a C "version" "J" (.long x)) → ∃ x : Int64, FE Z a0 h' a C "version" "J" (.long x)) ∧
  (∀ a C f, f ∈ VolI → (∃ x : Int32, FE Z a0 h a C f (dI f) (.int x)) → ∃ x : Int32, FE Z a0 h' a C f (dI f) (.int x)) ∧
  (∀ a cl C, (a, "[]") ∉ D → Arr Z h a cl (.object C) → h'[a]? = some cl)
variable {D D' : List (Addr × String)}
theorem Pres.refl (Z : State) (a0 : Array Value) (h : Heap) : Pres Z a0 h h [] := ⟨Nat.le_refl _, fun _ _ q => q, fun _ _ q => q, fun _ _ q => q, fun _ _ _ _ _ _ q => q, fun _ _ q => q, fun _ _ _ _ q => q, fun _ _ _ _ A => A.1⟩
theorem Pres.trans (P : Pres Z a0 h h' D) (Q : Pres Z a0 h' h'' D') : Pres Z a0 h h'' (D ++ D') :=
  ⟨Nat.le_trans P.1 Q.1, fun a C q => Q.2.1 a C (P.2.1 a C q), fun a n q => Q.2.2.1 a n (P.2.2.1 a n q), fun a n q => Q.2.2.2.1 a n (P.2.2.2.1 a n q),
   fun a C f d v u q => Q.2.2.2.2.1 a C f d v (fun z => u (List.mem_append_right _ z)) (P.2.2.2.2.1 a C f d v (fun z => u (List.mem_append_left _ z)) q), fun a C q => Q.2.2.2.2.2.1 a C (P.2.2.2.2.2.1 a C q), fun a C f u q => Q.2.2.2.2.2.2.1 a C f u (P.2.2.2.2.2.2.1 a C f u q),
   fun a cl C u A => Q.2.2.2.2.2.2.2 a cl C (fun z => u (List.mem_append_right _ z)) ⟨P.2.2.2.2.2.2.2 a cl C (fun z => u (List.mem_append_left _ z)) A, A.2⟩⟩
theorem Pres.ex (P : Pres Z a0 h h' D) (F : Exa Z h a C) : Exa Z h' a C := P.2.1 a C F
theorem Pres.lj (P : Pres Z a0 h h' D) (F : LJ Z h a n) : LJ Z h' a n := P.2.2.1 a n F
theorem Pres.li (P : Pres Z a0 h h' D) (F : LI Z h a n) : LI Z h' a n := P.2.2.2.1 a n F
theorem Pres.fe (P : Pres Z a0 h h' D) (F : FE Z a0 h a C f d v) (q : (a, f) ∉ D) : FE Z a0 h' a C f d v := P.2.2.2.2.1 a C f d v q F
theorem Pres.ver (P : Pres Z a0 h h' D) (F : ∃ x : Int64, FE Z a0 h a C "version" "J" (.long x)) : ∃ x : Int64, FE Z a0 h' a C "version" "J" (.long x) := P.2.2.2.2.2.1 a C F
theorem Pres.vi (P : Pres Z a0 h h' D) (F : ∃ x : Int32, FE Z a0 h a C f (dI f) (.int x)) (q : f ∈ VolI) : ∃ x : Int32, FE Z a0 h' a C f (dI f) (.int x) := P.2.2.2.2.2.2.1 a C f q F
theorem ninP0 {x : Addr × String} : x ∉ ([] : List (Addr × String)) := fun q => nomatch q
theorem ninP {L : List (Addr × String)} (q : f ≠ f' ∨ a ≠ b) (r : (a, f) ∉ L) : (a, f) ∉ (b, f') :: L := fun z => by
  rcases List.mem_cons.mp z with u | u
  · have e1 := congrArg Prod.fst u; have e2 := congrArg Prod.snd u
    rcases q with q | q
    · exact q e2
    · exact q e1
  · exact r u
theorem Pres.of_out (q1 : h.size ≤ h'.size) (q : ∀ x, x < h.size → h'[x]? = h[x]?) : Pres Z a0 h h' [] :=
  ⟨q1, fun a C F => exaS F (q a F.lt), fun a n F => F.same (q a F.lt), fun a n F => F.same (q a F.lt), fun a C f d v _ F => F.same (q a F.lt), fun a C ⟨x, F⟩ => ⟨x, F.same (q a F.lt)⟩, fun a C f _ ⟨x, F⟩ => ⟨x, F.same (q a F.lt)⟩, fun a cl C _ A => (q a A.lt).trans A.1⟩
theorem ext_out (E : Ext h h') : ∀ x, x < h.size → h'[x]? = h[x]? := fun x hx => by
  rw [Array.getElem?_eq_getElem hx]; exact E.2 x _ (Array.getElem?_eq_getElem hx)
theorem Pres.ext (E : Ext h h') : Pres Z a0 h h' [] := Pres.of_out E.1 (ext_out E)
/-- one array of numbers is written -/
theorem Pres.arr {cl : Cell} {ty : FieldType} (A : Arr Z h b cl ty) (ht : ∀ C, ty ≠ .object C) (q1 : h.size ≤ h'.size) (q : ∀ x, x < h.size → x ≠ b → h'[x]? = h[x]?) (hE : ∀ C, Exa Z h b C → Exa Z h' b C) (hJ : ∀ n, LJ Z h b n → LJ Z h' b n) (hI : ∀ n, LI Z h b n → LI Z h' b n) : Pres Z a0 h h' [] := by
  refine ⟨q1, fun a C F => ?_, fun a n F => ?_, fun a n F => ?_, fun a C f d v _ F => F.same (q a F.lt (F.neArr A)), fun a C ⟨x, F⟩ => ⟨x, F.same (q a F.lt (F.neArr A))⟩, fun a C f _ ⟨x, F⟩ => ⟨x, F.same (q a F.lt (F.neArr A))⟩, fun a cl' C _ A' => ?_⟩
  · by_cases u : a = b
    · subst u; exact hE C F
    · exact exaS F (q a F.lt u)
  · by_cases u : a = b
    · subst u; exact hJ n F
    · exact F.same (q a F.lt u)
  · by_cases u : a = b
    · subst u; exact hI n F
    · exact F.same (q a F.lt u)
  · by_cases u : a = b
    · subst u; exact absurd (arr_ty A A') (ht C)
    · exact (q a A'.lt u).trans A'.1
/-- one array of objects is written -/
theorem Pres.arrR {cl : Cell} {K : String} (A : Arr Z h b cl (.object K)) (q1 : h.size ≤ h'.size) (q : ∀ x, x < h.size → x ≠ b → h'[x]? = h[x]?) (hE : ∀ C, Exa Z h b C → Exa Z h' b C) : Pres Z a0 h h' [(b, "[]")] := by
  refine ⟨q1, fun a C F => ?_, fun a n F => ?_, fun a n F => ?_, fun a C f d v _ F => F.same (q a F.lt (F.neArr A)), fun a C ⟨x, F⟩ => ⟨x, F.same (q a F.lt (F.neArr A))⟩, fun a C f _ ⟨x, F⟩ => ⟨x, F.same (q a F.lt (F.neArr A))⟩, fun a cl' C u A' => ?_⟩
  · by_cases u : a = b
    · subst u; exact hE C F
    · exact exaS F (q a F.lt u)
  · by_cases u : a = b
    · subst u; obtain ⟨cl', A', -⟩ := F; exact absurd (arr_ty A A') (by simp)
    · exact F.same (q a F.lt u)
  · by_cases u : a = b
    · subst u; obtain ⟨cl', A', -⟩ := F; exact absurd (arr_ty A A') (by simp)
    · exact F.same (q a F.lt u)
  · by_cases e : a = b
    · subst e; exact absurd List.mem_cons_self u
    · exact (q a A'.lt e).trans A'.1
theorem Pres.wrJ {x : Int64} (A : LJ Z h b n) (W : Wr h h' b sl (.long x)) : Pres Z a0 h h' [] := by
  have A' := A
  obtain ⟨cl, Ar, -⟩ := A'
  refine Pres.arr Ar (by simp) (Nat.le_of_eq W.size.symm) (fun x _ u => wr_out W x u) (fun C F => F.wr W) (fun n F => F.wr W) (fun n F => ?_)
  obtain ⟨cl', Ar', -⟩ := F
  exact absurd (arr_ty Ar Ar') (by decide)
theorem Pres.wrI {x : Int32} (A : LI Z h b n) (W : Wr h h' b sl (.int x)) : Pres Z a0 h h' [] := by
  have A' := A
  obtain ⟨cl, Ar, -⟩ := A'
  refine Pres.arr Ar (by simp) (Nat.le_of_eq W.size.symm) (fun x _ u => wr_out W x u) (fun C F => F.wr W) (fun n F => ?_) (fun n F => F.wr W)
  obtain ⟨cl', Ar', -⟩ := F
  exact absurd (arr_ty Ar Ar') (by decide)
theorem Pres.wrR {cl : Cell} {K : String} (A : Arr Z h b cl (.object K)) (W : Wr h h' b sl v) : Pres Z a0 h h' [(b, "[]")] :=
  Pres.arrR A (Nat.le_of_eq W.size.symm) (fun x _ u => wr_out W x u) (fun C F => F.wr W)
theorem keep_out {ws : List Addr} (K : Keep h h' ws) : ∀ x, x < h.size → x ∉ ws → h'[x]? = h[x]? := fun x hx u => by
  rw [Array.getElem?_eq_getElem hx]; exact K.2.1 x _ (Array.getElem?_eq_getElem hx) u
theorem LJ.keepAt {ws : List Addr} (F : LJ Z h b n) (K : Keep h h' ws) (G : LJ Z h' b n') : LJ Z h' b n := by
  obtain ⟨cl, A, S, N, -⟩ := F
  obtain ⟨cl', A', S', N', H'⟩ := G
  obtain ⟨c', q, -, -, r3⟩ := K.2.2 b cl A.1
  cases q.symm.trans A'.1
  exact ⟨cl', A', by rw [r3]; exact S, N, H'⟩
theorem LI.keepAt {ws : List Addr} (F : LI Z h b n) (K : Keep h h' ws) (G : LI Z h' b n') : LI Z h' b n := by
  obtain ⟨cl, A, S, N, -⟩ := F
  obtain ⟨cl', A', S', N', H'⟩ := G
  obtain ⟨c', q, -, -, r3⟩ := K.2.2 b cl A.1
  cases q.symm.trans A'.1
  exact ⟨cl', A', by rw [r3]; exact S, N, H'⟩
theorem Pres.cpJ (A : LJ Z h b n) (K : Keep h h' [b]) (G : LJ Z h' b n') : Pres Z a0 h h' [] := by
  have A' := A
  obtain ⟨cl, Ar, -⟩ := A'
  refine Pres.arr Ar (by simp) K.1 (fun x hx u => keep_out K x hx (by simpa using u)) (fun C F => F.keep K) (fun n F => F.keepAt K G) (fun n F => ?_)
  obtain ⟨cl', Ar', -⟩ := F
  exact absurd (arr_ty Ar Ar') (by decide)
theorem Pres.cpI (A : LI Z h b n) (K : Keep h h' [b]) (G : LI Z h' b n') : Pres Z a0 h h' [] := by
  have A' := A
  obtain ⟨cl, Ar, -⟩ := A'
  refine Pres.arr Ar (by simp) K.1 (fun x hx u => keep_out K x hx (by simpa using u)) (fun C F => F.keep K) (fun n F => ?_) (fun n F => F.keepAt K G)
  obtain ⟨cl', Ar', -⟩ := F
  exact absurd (arr_ty Ar Ar') (by decide)
theorem Pres.cpR {cl : Cell} {K' : String} (A : Arr Z h b cl (.object K')) (K : Keep h h' [b]) : Pres Z a0 h h' [(b, "[]")] :=
  Pres.arrR A K.1 (fun x hx u => keep_out K x hx (by simpa using u)) (fun C F => F.keep K)
/-- an int field of the list is written -/
theorem Pres.fI {x0 x : Int32} (G : FE Z a0 h o C' f' (dI f') (.int x0)) (W : Wr h h' o (Jvm.RoadKit.slotOf Z C' f' (dI f')) (.int x)) (q : f' ∈ VolI) : Pres Z a0 h h' [(o, f')] := by
  refine ⟨Nat.le_of_eq W.size.symm, fun a C F => F.wr W, fun a n F => ?_, fun a n F => ?_, fun a C f d v u F => ?_, fun a C ⟨y, F⟩ => ⟨y, F.wr G W (ver_no q)⟩, fun a C f u ⟨y, F⟩ => ?_, fun a cl C _ A => ?_⟩
  · exact F.same (wr_out W a (Ne.symm (G.neJ F)))
  · exact F.same (wr_out W a (Ne.symm (G.neI F)))
  · by_cases e : f = f'
    · subst e; exact F.wrO G W (fun z => u (by rw [z]; exact List.mem_cons_self))
    · exact F.wr G W e
  · by_cases u : f = f'
    · subst u
      by_cases e : a = o
      · subst e
        by_cases k : C = C'
        · subst k; exact ⟨x, G.self W⟩
        · exact absurd rfl (ne_exa F.1 G.1 k)
      · exact ⟨y, F.wrO G W e⟩
    · exact ⟨y, F.wr G W u⟩
  · exact (wr_out W a (Ne.symm (G.neArr A))).trans A.1
theorem Pres.fJ {x0 x : Int64} (G : FE Z a0 h o C' "version" "J" (.long x0)) (W : Wr h h' o (Jvm.RoadKit.slotOf Z C' "version" "J") (.long x)) : Pres Z a0 h h' [(o, "version")] := by
  refine ⟨Nat.le_of_eq W.size.symm, fun a C F => F.wr W, fun a n F => ?_, fun a n F => ?_, fun a C f d v u F => ?_, fun a C ⟨y, F⟩ => ?_, fun a C f u ⟨y, F⟩ => ⟨y, F.wr G W (Ne.symm (ver_no u))⟩, fun a cl C _ A => ?_⟩
  · exact F.same (wr_out W a (Ne.symm (G.neJ F)))
  · exact F.same (wr_out W a (Ne.symm (G.neI F)))
  · by_cases e : f = "version"
    · subst e; exact F.wrO G W (fun z => u (by rw [z]; exact List.mem_cons_self))
    · exact F.wr G W e
  · by_cases e : a = o
    · subst e
      by_cases k : C = C'
      · subst k; exact ⟨x, G.self W⟩
      · exact absurd rfl (ne_exa F.1 G.1 k)
    · exact ⟨y, F.wrO G W e⟩
  · exact (wr_out W a (Ne.symm (G.neArr A))).trans A.1
/-- any other field is written -/
theorem Pres.fS {w0 : Value} (G : FE Z a0 h o C' f' d' w0) (W : Wr h h' o (Jvm.RoadKit.slotOf Z C' f' d') w) (q : f' ∉ Vol) : Pres Z a0 h h' [(o, f')] := by
  refine ⟨Nat.le_of_eq W.size.symm, fun a C F => F.wr W, fun a n F => ?_, fun a n F => ?_, fun a C f d v u F => ?_, fun a C ⟨y, F⟩ => ⟨y, F.wr G W (fun e => q (by rw [← e]; exact List.mem_cons_self))⟩, fun a C f u ⟨y, F⟩ => ⟨y, F.wr G W (fun e => q (by rw [← e]; exact List.mem_cons_of_mem _ u))⟩, fun a cl C _ A => ?_⟩
  · exact F.same (wr_out W a (Ne.symm (G.neJ F)))
  · exact F.same (wr_out W a (Ne.symm (G.neI F)))
  · by_cases e : f = f'
    · subst e; exact F.wrO G W (fun z => u (by rw [z]; exact List.mem_cons_self))
    · exact F.wr G W e
  · exact (wr_out W a (Ne.symm (G.neArr A))).trans A.1
/-- the cells below k stand as they stood -/
def KN (k : Nat) (h h' : Heap) : Prop := h.size ≤ h'.size ∧ ∀ x, x < k → h'[x]? = h[x]?
theorem KN.refl (k : Nat) (h : Heap) : KN k h h := ⟨Nat.le_refl _, fun _ _ => rfl⟩
theorem KN.trans {k : Nat} (P : KN k h h') (Q : KN k h' h'') : KN k h h'' := ⟨Nat.le_trans P.1 Q.1, fun x hx => (Q.2 x hx).trans (P.2 x hx)⟩
theorem KN.wr {k : Nat} (W : Wr h h' a sl v) (q : k ≤ a) : KN k h h' := ⟨Nat.le_of_eq W.size.symm, fun x hx => wr_out W x (Nat.ne_of_lt (Nat.lt_of_lt_of_le hx q))⟩
theorem KN.ext {k : Nat} (E : Ext h h') (q : k ≤ h.size) : KN k h h' := ⟨E.1, fun x hx => ext_out E x (Nat.lt_of_lt_of_le hx q)⟩
theorem KN.kp {k : Nat} {ws : List Addr} (K : Keep h h' ws) (q : k ≤ h.size) (r : ∀ x ∈ ws, k ≤ x) : KN k h h' := ⟨K.1, fun x hx => keep_out K x (Nat.lt_of_lt_of_le hx q) (fun z => absurd (r x z) (Nat.not_le.mpr hx))⟩
/-- a copy within or between long[]s -/
theorem cpJ (X : Stand p l e R s m args below meth c T locs cells slots) (hx : p.tables.exec = Jvm.exec) (hZ : Z.Warmed39 s.vm) {own : String} {index : Nat} (hown : s.vm.findClass own = some m.cls)
    (w1 : (Cond.methodLink own index Jvm.Stand.acN).before a0 Z = true) (w2 : (Cond.native Jvm.Stand.acN).before a0 Z = true) (w3 : (Cond.static Jvm.Stand.acN).before a0 Z = true) (w4 : (Cond.initialized "java/lang/System").before a0 Z = true) (eT : T.heap = h)
    {sp dp nn : Int32} (A : LJ Z h a n) (B : LJ Z h b n') (h1 : ¬ sp < 0) (h2 : ¬ dp < 0) (h3 : ¬ nn < 0) (h4 : sp.toNatClampNeg + nn.toNatClampNeg ≤ n.toNatClampNeg) (h5 : dp.toNatClampNeg + nn.toNatClampNeg ≤ n'.toNatClampNeg) {n0 : Nat} (N : Fr n0 locs) (ge : n0 ≤ b)
    {pc : Nat} {Ls : Array Slot} {rest : List Value} (hsize : Ls.size = c.maxLocals) (hd : decode c.code pc = .ok (.invokestatic index, 3)) (hf : 1 ≤ R.frames) {W : Nat} (hW : (rest.map fun v => v.category).sum ≤ W) (hlo : W + 18 ≤ R.locals) :
    ∃ T' h' L, Stand p l e R s m args below meth c T' L cells slots ∧ T'.heap = h' ∧ Fr n0 L ∧ Keep h h' [b] ∧ LJ Z h' b n' ∧
      ∀ target, Steps p.tables e below (T'.setTop (mkF m (pc + 3) Ls rest)) target → Steps p.tables e below (T.setTop (mkF m pc Ls (.int nn :: .int dp :: .ref b :: .int sp :: .ref a :: rest))) target := by
  obtain ⟨k, vs, VA, -⟩ := A.arv
  obtain ⟨k', vd, VB, lB⟩ := B.arv
  obtain ⟨T', h', L, X', e', N', K', V', st⟩ := cpA X hx hZ hown w1 w2 w3 w4 eT VA VB (Or.inl ⟨rfl, rfl⟩) h1 h2 h3 h4 h5 rfl (by rw [lB]; exact h5) N ge (g := mkF m pc Ls (.int nn :: .int dp :: .ref b :: .int sp :: .ref a :: rest)) rfl hsize rfl hd hf (W := W) (by show 2 * 0 + _ ≤ _; rw [Nat.mul_zero, Nat.zero_add]; exact hW) hlo
  exact ⟨T', h', L, X', e', N', K', LJ.of_arv V', st⟩
theorem cpI (X : Stand p l e R s m args below meth c T locs cells slots) (hx : p.tables.exec = Jvm.exec) (hZ : Z.Warmed39 s.vm) {own : String} {index : Nat} (hown : s.vm.findClass own = some m.cls)
    (w1 : (Cond.methodLink own index Jvm.Stand.acN).before a0 Z = true) (w2 : (Cond.native Jvm.Stand.acN).before a0 Z = true) (w3 : (Cond.static Jvm.Stand.acN).before a0 Z = true) (w4 : (Cond.initialized "java/lang/System").before a0 Z = true) (eT : T.heap = h)
    {sp dp nn : Int32} (A : LI Z h a n) (B : LI Z h b n') (h1 : ¬ sp < 0) (h2 : ¬ dp < 0) (h3 : ¬ nn < 0) (h4 : sp.toNatClampNeg + nn.toNatClampNeg ≤ n.toNatClampNeg) (h5 : dp.toNatClampNeg + nn.toNatClampNeg ≤ n'.toNatClampNeg) {n0 : Nat} (N : Fr n0 locs) (ge : n0 ≤ b)
    {pc : Nat} {Ls : Array Slot} {rest : List Value} (hsize : Ls.size = c.maxLocals) (hd : decode c.code pc = .ok (.invokestatic index, 3)) (hf : 1 ≤ R.frames) {W : Nat} (hW : (rest.map fun v => v.category).sum ≤ W) (hlo : W + 18 ≤ R.locals) :
    ∃ T' h' L, Stand p l e R s m args below meth c T' L cells slots ∧ T'.heap = h' ∧ Fr n0 L ∧ Keep h h' [b] ∧ LI Z h' b n' ∧
      ∀ target, Steps p.tables e below (T'.setTop (mkF m (pc + 3) Ls rest)) target → Steps p.tables e below (T.setTop (mkF m pc Ls (.int nn :: .int dp :: .ref b :: .int sp :: .ref a :: rest))) target := by
  obtain ⟨k, vs, VA, -⟩ := A.arv
  obtain ⟨k', vd, VB, lB⟩ := B.arv
  obtain ⟨T', h', L, X', e', N', K', V', st⟩ := cpA X hx hZ hown w1 w2 w3 w4 eT VA VB (Or.inl ⟨rfl, rfl⟩) h1 h2 h3 h4 h5 rfl (by rw [lB]; exact h5) N ge (g := mkF m pc Ls (.int nn :: .int dp :: .ref b :: .int sp :: .ref a :: rest)) rfl hsize rfl hd hf (W := W) (by show 2 * 0 + _ ≤ _; rw [Nat.mul_zero, Nat.zero_add]; exact hW) hlo
  exact ⟨T', h', L, X', e', N', K', LI.of_arv V', st⟩
/-- a place in an array of longs, and what it holds -/
theorem LJ.at {j : Int32} (F : LJ Z h a n) (q : ¬ j < 0 ∧ j < n) : ∃ (cl : Cell) (x : Int64), Arr Z h a cl .long ∧ ¬ (j < 0 ∨ cl.slots.size ≤ j.toNatClampNeg) ∧ cl.slots[j.toNatClampNeg]? = some (.long x) := by
  obtain ⟨cl, A, S, N, H⟩ := F
  have hin := inb_of S q
  obtain ⟨x, hx⟩ := H _ (Nat.lt_of_not_le fun y => hin (Or.inr y))
  exact ⟨cl, x, A, hin, hx⟩
theorem LI.at {j : Int32} (F : LI Z h a n) (q : ¬ j < 0 ∧ j < n) : ∃ (cl : Cell) (x : Int32), Arr Z h a cl .int ∧ ¬ (j < 0 ∨ cl.slots.size ≤ j.toNatClampNeg) ∧ cl.slots[j.toNatClampNeg]? = some (.int x) := by
  obtain ⟨cl, A, S, N, H⟩ := F
  have hin := inb_of S q
  obtain ⟨x, hx⟩ := H _ (Nat.lt_of_not_le fun y => hin (Or.inr y))
  exact ⟨cl, x, A, hin, hx⟩
end Own3
section Own3b
variable {p : Program} {l : Launch} {e : Env} {R : Room} {s : State} {m : MethodId} {args : Array Value} {below : List Frame} {meth : Method} {c : Code} {T : State} {locs : List Loc} {cells slots : Nat} {Z : State} {a0 : Array Value} {h h' h'' h0 : Heap} {a b o : Addr} {n n' : Int32} {C C' f f' d d' : String} {v w : Value} {sl : Nat}
/-- a constructor by an entry that is resolved -/
theorem own_scall (hx : p.tables.exec = Jvm.exec) (hZ : Z.Warmed39 s.vm) {own : String} {index : Nat} {y : MethodName} (hy1 : y.name = "<init>") (hown : s.vm.findClass own = some m.cls) (w : (Cond.methodRef own index y).before a0 Z = true) (hinst : (Cond.instanceMethod y).before args s = true)
    {bytes : ByteArray} {maxL : Nat} (hcode : (Cond.code y bytes maxL none).before args s = true) (hy : y.cls ≠ "java/lang/invoke/MethodHandle" ∧ y.cls ≠ "java/lang/invoke/VarHandle") : SCall p l e R s m args below meth c index y :=
  SCall.of_ready hx hy1 hinst hcode fun U r hU hn => by
    have hW : Z.Warmed39 U.vm := State.Warmed39.trans hZ hU.wide
    have e1 : ∀ (S : State) (vm' : Vm), S.vm.Alike vm' → (S.setVm vm').methodNamed? y = S.methodNamed? y := fun S vm' q => State.methodNamed?_setVm q y
    have hnZ : Z.methodNamed? y = some r := by
      rw [← e1 Z s.vm hZ.alike]; exact hn
    have w' := Cond.methodRef_warmed39 hW hnZ hy w
    have hc : (Z.setVm U.vm).vm.findClass own = some m.cls := by
      show U.vm.findClass own = _
      rw [hU.alike.findClass]; exact hown
    obtain ⟨m', c', hm, hr, hf, hnr⟩ := Cond.methodRef_named e hc w'
    have hn2 : (Z.setVm U.vm).methodNamed? y = some r := by rw [e1 Z U.vm hW.alike]; exact hnZ
    cases (State.methodFound?_of_named hn2 hy).symm.trans hm
    have hc2 := findClass_of_methodNamed hn2
    cases hf.symm.trans hc2
    exact ⟨hnr, hr⟩
/-- an int[] is cloned -/
theorem own_cloneI (X : Stand p l e R s m args below meth c T locs cells slots) (hx : p.tables.exec = Jvm.exec) (hZ : Z.Warmed39 s.vm) {own : String} {index : Nat} (hown : s.vm.findClass own = some m.cls)
    (w1 : (Cond.methodLink own index ⟨"[I", "clone", "()Ljava/lang/Object;"⟩).before a0 Z = true) (w2 : (Cond.sameMethod "[I" "java/lang/Object" "clone" "()Ljava/lang/Object;").before a0 Z = true) (w3 : (Cond.native ⟨"java/lang/Object", "clone", "()Ljava/lang/Object;"⟩).before a0 Z = true)
    (w4 : (Cond.instanceMethod ⟨"java/lang/Object", "clone", "()Ljava/lang/Object;"⟩).before a0 Z = true) (w5 : (Cond.selects "[I" ⟨"[I", "clone", "()Ljava/lang/Object;"⟩ ⟨"java/lang/Object", "clone", "()Ljava/lang/Object;"⟩).before a0 Z = true) (w6 : (Cond.castable "[I" "java/lang/Cloneable").before a0 Z = true)
    (eT : T.heap = h) (A : LI Z h a n) (E : Exa Z h a "[I") {g : JFrame} (hg : g.method = m) (hsize : g.locals.size = c.maxLocals) {rest : List Value} (hs : g.stack = .ref a :: rest) (hd : decode c.code g.pc = .ok (.invokevirtual index, 3))
    (hf : 1 ≤ R.frames) {W cap : Nat} (hW : 2 * g.monitorRoom + (rest.map fun v => v.category).sum ≤ W) (hl : W + 14 ≤ R.locals) (hcap : n.toNatClampNeg ≤ cap) (hc : cells + 1 ≤ R.cells) (hsl : slots + cap ≤ R.slots) :
    ∃ T' h', Stand p l e R s m args below meth c T' locs (cells + 1) (slots + cap) ∧ T'.heap = h' ∧ Ext h h' ∧ LI Z h' h.size n ∧ Exa Z h' h.size "[I" ∧
      ∀ target, Steps p.tables e below (T'.setTop { g with pc := g.pc + 3, stack := .ref h.size :: rest }) target → Steps p.tables e below (T.setTop g) target := by
  obtain ⟨cl, A, S, N, H⟩ := A
  have FC : FitC Z cl := fitC_of A fun i hi v hv => by obtain ⟨x, hx⟩ := H i hi; rw [hx] at hv; cases hv; rfl
  obtain ⟨T', h', X', e', ex, A', E', st⟩ := cloneA X hx hZ hown w1 w2 w3 w4 w5 w6 eT A E FC hg hsize hs hd hf hW hl (by rw [S]; exact hcap) hc hsl
  exact ⟨T', h', X', e', ex, ⟨cloneOf cl, A', S, N, H⟩, E', st⟩
end Own3b
section Own3c
variable {p : Program} {l : Launch} {e : Env} {R : Room} {s : State} {m : MethodId} {args : Array Value} {below : List Frame} {meth : Method} {c : Code} {T : State} {locs : List Loc} {cells slots : Nat} {Z : State} {a0 : Array Value} {h h' h'' h0 : Heap} {a b o A : Addr} {n n' : Int32} {C C' f f' d d' : String} {v w : Value} {sl : Nat} {D D' : List (Addr × String)} {vs vs' : List Value}
theorem n_add {x y : Int32} {a b : Int} (hx : x.toInt = a) (hy : y.toInt = b) (q : -2147483648 ≤ a + b ∧ a + b < 2147483648) : (x + y).toInt = a + b := by
  have := c_iadd x y; have := (x + y).toInt_lt; have := (x + y).le_toInt; omega
theorem n_sub {x y : Int32} {a b : Int} (hx : x.toInt = a) (hy : y.toInt = b) (q : -2147483648 ≤ a - b ∧ a - b < 2147483648) : (x - y).toInt = a - b := by
  have := c_isub x y; have := (x - y).toInt_lt; have := (x - y).le_toInt; omega
theorem n_mul1 {x y : Int32} {a : Int} (hx : x.toInt = a) (hy : y.toInt = 1) : (x * y).toInt = a := by
  have e : y = 1 := Int32.toInt_inj.mp hy
  rw [e, Int32.mul_one]; exact hx
theorem n_lt {x y : Int32} {a b : Int} (hx : x.toInt = a) (hy : y.toInt = b) (q : a < b) : x < y := Int32.lt_iff_toInt_lt.mpr (by omega)
theorem n_nlt {x y : Int32} {a b : Int} (hx : x.toInt = a) (hy : y.toInt = b) (q : b ≤ a) : ¬ x < y := fun z => by have := Int32.lt_iff_toInt_lt.mp z; omega
theorem n_ltI {x y : Int32} {a b : Int} (hx : x.toInt = a) (hy : y.toInt = b) (q : x < y) : a < b := by have := Int32.lt_iff_toInt_lt.mp q; omega
theorem n_nltI {x y : Int32} {a b : Int} (hx : x.toInt = a) (hy : y.toInt = b) (q : ¬ x < y) : b ≤ a := by rw [Int32.lt_iff_toInt_lt] at q; omega
theorem n_eq {x y : Int32} {a b : Int} (hx : x.toInt = a) (hy : y.toInt = b) (q : a = b) : x = y := Int32.toInt_inj.mp (by omega)
theorem n_ne {x y : Int32} {a b : Int} (hx : x.toInt = a) (hy : y.toInt = b) (q : a ≠ b) : ¬ x = y := fun z => by subst z; omega
theorem n_eqI {x y : Int32} {a b : Int} (hx : x.toInt = a) (hy : y.toInt = b) (q : x = y) : a = b := by subst q; omega
theorem n_neI {x y : Int32} {a b : Int} (hx : x.toInt = a) (hy : y.toInt = b) (q : ¬ x = y) : a ≠ b := fun z => q (Int32.toInt_inj.mp (by omega))
theorem n_in {j n : Int32} {a b : Int} (hj : j.toInt = a) (hn : n.toInt = b) (q : 0 ≤ a ∧ a < b) : ¬ j < 0 ∧ j < n := ⟨n_nlt hj (show (0 : Int32).toInt = 0 from rfl) q.1, n_lt hj hn q.2⟩
theorem n_cp {sp nn n : Int32} {a b k : Int} (hs : sp.toInt = a) (hn : nn.toInt = b) (hm : n.toInt = k) (q : 0 ≤ a ∧ 0 ≤ b ∧ a + b ≤ k) : ¬ sp < 0 ∧ ¬ nn < 0 ∧ sp.toNatClampNeg + nn.toNatClampNeg ≤ n.toNatClampNeg := by
  refine ⟨n_nlt hs (show (0 : Int32).toInt = 0 from rfl) q.1, n_nlt hn (show (0 : Int32).toInt = 0 from rfl) q.2.1, ?_⟩
  show sp.toInt.toNat + nn.toInt.toNat ≤ n.toInt.toNat
  omega
theorem Pres.fIx {x0 x : Int32} (hd : dI f' = d') (G : FE Z a0 h o C' f' d' (.int x0)) (W : Wr h h' o (Jvm.RoadKit.slotOf Z C' f' d') (.int x)) (q : f' ∈ VolI) : Pres Z a0 h h' [(o, f')] := by subst hd; exact Pres.fI G W q
theorem Pres.nil_mono (P : Pres Z a0 h h' []) (D : List (Addr × String)) : Pres Z a0 h h' D :=
  ⟨P.1, P.2.1, P.2.2.1, P.2.2.2.1, fun a C f d v _ q => P.2.2.2.2.1 a C f d v (fun z => nomatch z) q, P.2.2.2.2.2.1, P.2.2.2.2.2.2.1, fun a cl C _ A => P.2.2.2.2.2.2.2 a cl C (fun z => nomatch z) A⟩
theorem Fr.mono {k k' : Nat} {L : List Loc} (N : Fr k' L) (q : k ≤ k') : Fr k L := fun y hy => Nat.le_trans q (N y hy)
theorem KN.mono {k k' : Nat} (K : KN k' h h') (q : k ≤ k') : KN k h h' := ⟨K.1, fun x hx => K.2 x (Nat.lt_of_lt_of_le hx q)⟩
theorem arvS {k : ClassId} {ty : FieldType} {z : Int32} {dv : Value} (F : Arv Z h a k ty z vs dv) (q : h'[a]? = h[a]?) : Arv Z h' a k ty z vs dv := by
  obtain ⟨cl, A, r⟩ := F; exact ⟨cl, ⟨q.trans A.1, A.2⟩, r⟩
/-- the array of chunks -/
def RA (Z : State) (h : Heap) (A : Addr) (vs : List Value) : Prop := ∃ k : ClassId, Arv Z h A k (.object nCh) 4 vs .null ∧ Ovr Z k nCh ∧ vs.length = 4
theorem RA.lt (F : RA Z h A vs) : A < h.size := by obtain ⟨k, V, -⟩ := F; exact V.lt
theorem RA.len (F : RA Z h A vs) : vs.length = 4 := by obtain ⟨k, V, -, q⟩ := F; exact q
theorem RA.same (F : RA Z h A vs) (q : h'[A]? = h[A]?) : RA Z h' A vs := by obtain ⟨k, V, r⟩ := F; exact ⟨k, arvS V q, r⟩
theorem Pres.ra (P : Pres Z a0 h h' D) (F : RA Z h A vs) (q : (A, "[]") ∉ D) : RA Z h' A vs := by
  obtain ⟨k, ⟨cl, Ar, r⟩, u⟩ := F
  exact ⟨k, ⟨cl, ⟨P.2.2.2.2.2.2.2 A cl _ q Ar, Ar.2⟩, r⟩, u⟩
theorem RA.arl (F : RA Z h A vs) : ∃ cl : Cell, Arr Z h A cl (.object nCh) ∧ cl.slots.size = (4 : Int32).toNatClampNeg := by obtain ⟨k, ⟨cl, Ar, -, S, -⟩, -⟩ := F; exact ⟨cl, Ar, S⟩
/-- a chunk -/
def chN : List String := ["time", "inUse", "shared", "finishing", "block", "size"]
def ChR (Z : State) (a0 : Array Value) (h : Heap) (k : Nat) (B : Addr) (σ : Int) (c : Addr) : Prop := k ≤ c ∧ ∃ (t u s f : Addr) (sz y : Int32) (x : Int64), (k ≤ t ∧ k ≤ u ∧ k ≤ s ∧ k ≤ f) ∧
  FE Z a0 h c nCh "time" "[J" (.ref t) ∧ LJ Z h t 4 ∧ FE Z a0 h c nCh "inUse" "[J" (.ref u) ∧ LJ Z h u 4 ∧ FE Z a0 h c nCh "shared" "[J" (.ref s) ∧ LJ Z h s 1 ∧ FE Z a0 h c nCh "finishing" "[I" (.ref f) ∧ LI Z h f 4 ∧
  FE Z a0 h c nCh "block" dBl (.ref B) ∧ FE Z a0 h c nCh "size" "I" (.int sz) ∧ (1 ≤ sz.toInt ∧ sz.toInt ≤ 4 ∧ sz.toInt ≤ σ) ∧ FE Z a0 h c nCh "version" "J" (.long x) ∧ FE Z a0 h c nCh "peaksHigh" "Z" (.int y)
theorem ChR.lt {k : Nat} {B c : Addr} {σ : Int} (F : ChR Z a0 h k B σ c) : c < h.size := by obtain ⟨-, t, u, s, f, sz, y, x, -, F, -⟩ := F; exact F.lt
theorem ChR.mono {k : Nat} {B c : Addr} {σ σ' : Int} (F : ChR Z a0 h k B σ c) (q : σ ≤ σ') : ChR Z a0 h k B σ' c := by
  obtain ⟨g, t, u, s, f, sz, y, x, h1, h2, h3, h4, h5, h6, h7, h8, h9, h10, h11, h12, h13, h14⟩ := F
  exact ⟨g, t, u, s, f, sz, y, x, h1, h2, h3, h4, h5, h6, h7, h8, h9, h10, h11, ⟨h12.1, h12.2.1, by omega⟩, h13, h14⟩
theorem ChR.four {k : Nat} {B c : Addr} {σ : Int} (F : ChR Z a0 h k B σ c) : ChR Z a0 h k B 4 c := by
  obtain ⟨g, t, u, s, f, sz, y, x, h1, h2, h3, h4, h5, h6, h7, h8, h9, h10, h11, h12, h13, h14⟩ := F
  exact ⟨g, t, u, s, f, sz, y, x, h1, h2, h3, h4, h5, h6, h7, h8, h9, h10, h11, ⟨h12.1, h12.2.1, h12.2.1⟩, h13, h14⟩
theorem ChR.upd {k : Nat} {B c : Addr} {σ σ' : Int} {z : Int32} (F : ChR Z a0 h k B σ c) (P : Pres Z a0 h h' D) (hD : ∀ f ∈ chN, f ≠ "size" → (c, f) ∉ D) (G : FE Z a0 h' c nCh "size" "I" (.int z)) (q : 1 ≤ z.toInt ∧ z.toInt ≤ 4 ∧ z.toInt ≤ σ') : ChR Z a0 h' k B σ' c := by
  obtain ⟨g, t, u, s, f, sz, y, x, h1, h2, h3, h4, h5, h6, h7, h8, h9, h10, h11, h12, h13, h14⟩ := F
  obtain ⟨x', h13'⟩ := P.ver ⟨x, h13⟩
  obtain ⟨y', h14'⟩ := P.vi (f := "peaksHigh") ⟨y, h14⟩ (by decide)
  exact ⟨g, t, u, s, f, z, y', x', h1, P.fe h2 (hD _ (by decide) (by decide)), P.lj h3, P.fe h4 (hD _ (by decide) (by decide)), P.lj h5, P.fe h6 (hD _ (by decide) (by decide)), P.lj h7, P.fe h8 (hD _ (by decide) (by decide)), P.li h9,
    P.fe h10 (hD _ (by decide) (by decide)), G, q, h13', h14'⟩
theorem ChR.pres {k : Nat} {B c : Addr} {σ : Int} (F : ChR Z a0 h k B σ c) (P : Pres Z a0 h h' D) (hD : ∀ f ∈ chN, (c, f) ∉ D) : ChR Z a0 h' k B σ c := by
  have F' := F
  obtain ⟨g, t, u, s, f, sz, y, x, h1, h2, h3, h4, h5, h6, h7, h8, h9, h10, h11, h12, h13, h14⟩ := F
  exact F'.upd P (fun f q _ => hD f q) (P.fe h11 (hD _ (by decide))) h12
theorem ChR.same {k : Nat} {B c : Addr} {σ : Int} (F : ChR Z a0 h k B σ c) (q : ∀ x, k ≤ x → x < h.size → h'[x]? = h[x]?) : ChR Z a0 h' k B σ c := by
  obtain ⟨g, t, u, s, f, sz, y, x, h1, h2, h3, h4, h5, h6, h7, h8, h9, h10, h11, h12, h13, h14⟩ := F
  have qc := q c g h2.lt
  exact ⟨g, t, u, s, f, sz, y, x, h1, h2.same qc, h3.same (q _ h1.1 h3.lt), h4.same qc, h5.same (q _ h1.2.1 h5.lt), h6.same qc, h7.same (q _ h1.2.2.1 h7.lt), h8.same qc, h9.same (q _ h1.2.2.2 h9.lt), h10.same qc, h11.same qc, h12, h13.same qc, h14.same qc⟩
/-- the chunks of the first cc places -/
def CC (Z : State) (a0 : Array Value) (h : Heap) (k top : Nat) (B : Addr) (vs : List Value) (cc : Int32) (σ : Int) : Prop := ∀ i : Nat, i < cc.toNatClampNeg → ∃ c : Addr, vs[i]? = some (.ref c) ∧ c < top ∧ ChR Z a0 h k B σ c
theorem CC.pres {k top : Nat} {B : Addr} {cc : Int32} {σ : Int} (F : CC Z a0 h k top B vs cc σ) (P : Pres Z a0 h h' D) (hD : ∀ x ∈ D, x.2 ∉ chN ∨ top ≤ x.1) : CC Z a0 h' k top B vs cc σ := fun i hi => by
  obtain ⟨c, h1, h2, h3⟩ := F i hi
  refine ⟨c, h1, h2, h3.pres P fun f hf z => ?_⟩
  rcases hD _ z with q | q
  · exact q hf
  · exact absurd h2 (Nat.not_lt.mpr q)
theorem CC.upd {k top : Nat} {B c0 : Addr} {cc : Int32} {σ σ' : Int} {z : Int32} (F : CC Z a0 h k top B vs cc σ) (P : Pres Z a0 h h' [(c0, "size")]) (G : FE Z a0 h' c0 nCh "size" "I" (.int z)) (q : 1 ≤ z.toInt ∧ z.toInt ≤ 4 ∧ z.toInt ≤ σ') (u : σ ≤ σ') : CC Z a0 h' k top B vs cc σ' := fun i hi => by
  obtain ⟨c, h1, h2, h3⟩ := F i hi
  refine ⟨c, h1, h2, ?_⟩
  by_cases e : c = c0
  · subst e
    exact h3.upd P (fun f hf hn z => by rcases List.mem_singleton.mp z with e; exact hn (congrArg Prod.snd e)) G q
  · exact (h3.pres P (fun f hf z => e (congrArg Prod.fst (List.mem_singleton.mp z)))).mono u
theorem CC.same {k top : Nat} {B : Addr} {cc : Int32} {σ : Int} (F : CC Z a0 h k top B vs cc σ) (q : ∀ x, k ≤ x → x < h.size → h'[x]? = h[x]?) : CC Z a0 h' k top B vs cc σ := fun i hi => by
  obtain ⟨c, h1, h2, h3⟩ := F i hi; exact ⟨c, h1, h2, h3.same q⟩
theorem CC.top {k top top' : Nat} {B : Addr} {cc : Int32} {σ : Int} (F : CC Z a0 h k top B vs cc σ) (q : h.size ≤ top') : CC Z a0 h k top' B vs cc σ := fun i hi => by
  obtain ⟨c, h1, h2, h3⟩ := F i hi; exact ⟨c, h1, Nat.lt_of_lt_of_le h3.lt q, h3⟩
theorem CC.mono {k top : Nat} {B : Addr} {cc : Int32} {σ σ' : Int} (F : CC Z a0 h k top B vs cc σ) (q : σ ≤ σ') : CC Z a0 h k top B vs cc σ' := fun i hi => by
  obtain ⟨c, h1, h2, h3⟩ := F i hi; exact ⟨c, h1, h2, h3.mono q⟩
theorem hd0 {top : Nat} : ∀ x ∈ ([] : List (Addr × String)), x.2 ∉ chN ∨ top ≤ x.1 := fun x q => nomatch q
theorem hd1 {top : Nat} (q : f ∉ chN ∨ top ≤ a) (r : ∀ x ∈ D, x.2 ∉ chN ∨ top ≤ x.1) : ∀ x ∈ (a, f) :: D, x.2 ∉ chN ∨ top ≤ x.1 := fun x z => by
  rcases List.mem_cons.mp z with rfl | z
  · exact q
  · exact r x z
/-- a chunk is read out of the array -/
theorem CC.at {k top : Nat} {B : Addr} {cc j : Int32} {σ : Int} (Ra : RA Z h A vs) (F : CC Z a0 h k top B vs cc σ) {i b : Int} (hj : j.toInt = i) (hc : cc.toInt = b) (q : 0 ≤ i ∧ i < b) : ∃ (cl : Cell) (c : Addr), Arr Z h A cl (.object nCh) ∧ ¬ (j < 0 ∨ cl.slots.size ≤ j.toNatClampNeg) ∧ cl.slots[j.toNatClampNeg]? = some (.ref c) ∧ vs[j.toNatClampNeg]? = some (.ref c) ∧ c < top ∧ ChR Z a0 h k B σ c := by
  obtain ⟨c, h1, h2, h3⟩ := F j.toNatClampNeg (by show j.toInt.toNat < cc.toInt.toNat; omega)
  obtain ⟨kk, ⟨cl, Ar, q1, S, q3, H, G⟩, O, ln⟩ := Ra
  have hl : j.toNatClampNeg < vs.length := (List.getElem?_eq_some_iff.mp h1).1
  have hlt : j.toNatClampNeg < cl.slots.size := by rw [S, show (4 : Int32).toNatClampNeg = 4 from rfl, ← ln]; exact hl
  refine ⟨cl, c, Ar, fun z => ?_, ?_, h1, h2, h3⟩
  · rcases z with z | z
    · exact n_nlt hj (show (0 : Int32).toInt = 0 from rfl) q.1 z
    · omega
  · rw [H _ hlt, List.getD_eq_getElem?_getD, h1]; rfl
theorem stoL_of {us : List Value} (H : ∀ v ∈ us, Sto Z h a v) : StoL Z h a us := by
  induction us with
  | nil => trivial
  | cons x r ih => exact ⟨H x List.mem_cons_self, ih fun v q => H v (List.mem_cons_of_mem _ q)⟩
/-- a copy within the array of chunks -/
theorem cpR (X : Stand p l e R s m args below meth c T locs cells slots) (hx : p.tables.exec = Jvm.exec) (hZ : Z.Warmed39 s.vm) {own : String} {index : Nat} (hown : s.vm.findClass own = some m.cls)
    (w1 : (Cond.methodLink own index Jvm.Stand.acN).before a0 Z = true) (w2 : (Cond.native Jvm.Stand.acN).before a0 Z = true) (w3 : (Cond.static Jvm.Stand.acN).before a0 Z = true) (w4 : (Cond.initialized "java/lang/System").before a0 Z = true) (eT : T.heap = h)
    {sp dp nn : Int32} (F : RA Z h A vs) (hel : ∀ i : Nat, i < nn.toNatClampNeg → ∃ c : Addr, vs[sp.toNatClampNeg + i]? = some (.ref c) ∧ Exa Z h c nCh) (h1 : ¬ sp < 0) (h2 : ¬ dp < 0) (h3 : ¬ nn < 0) (h4 : sp.toNatClampNeg + nn.toNatClampNeg ≤ (4 : Int32).toNatClampNeg) (h5 : dp.toNatClampNeg + nn.toNatClampNeg ≤ (4 : Int32).toNatClampNeg) {n0 : Nat} (N : Fr n0 locs) (ge : n0 ≤ A)
    {pc : Nat} {Ls : Array Slot} {rest : List Value} (hsize : Ls.size = c.maxLocals) (hd : decode c.code pc = .ok (.invokestatic index, 3)) (hf : 1 ≤ R.frames) {W : Nat} (hW : (rest.map fun v => v.category).sum ≤ W) (hlo : W + 18 ≤ R.locals) :
    ∃ T' h' L, Stand p l e R s m args below meth c T' L cells slots ∧ T'.heap = h' ∧ Fr n0 L ∧ Keep h h' [A] ∧ RA Z h' A (vs.take dp.toNatClampNeg ++ (List.range nn.toNatClampNeg).map (fun i => vs.getD (sp.toNatClampNeg + i) .null) ++ vs.drop (dp.toNatClampNeg + nn.toNatClampNeg)) ∧ Pres Z a0 h h' [(A, "[]")] ∧
      ∀ target, Steps p.tables e below (T'.setTop (mkF m (pc + 3) Ls rest)) target → Steps p.tables e below (T.setTop (mkF m pc Ls (.int nn :: .int dp :: .ref A :: .int sp :: .ref A :: rest))) target := by
  obtain ⟨cl, Ar, Sz⟩ := F.arl
  obtain ⟨k, V, O, ln⟩ := F
  have hst : StoL Z h A ((List.range nn.toNatClampNeg).map fun i => vs.getD (sp.toNatClampNeg + i) .null) := stoL_of fun v hv => by
    obtain ⟨i, hi, rfl⟩ := List.mem_map.mp hv
    obtain ⟨c, e1, e2⟩ := hel i (List.mem_range.mp hi)
    rw [List.getD_eq_getElem?_getD, e1]
    obtain ⟨cl', Ar', q', -⟩ := V
    exact Sto.ofV Ar' q' O (Ins.self e2)
  have l4 : (4 : Int32).toNatClampNeg = 4 := rfl
  obtain ⟨T', h', L, X', e', N', K', V', st⟩ := cpA X hx hZ hown w1 w2 w3 w4 eT V V (Or.inr ⟨rfl, rfl, hst⟩) h1 h2 h3 h4 h5 rfl (by rw [ln]; exact h5) N ge (g := mkF m pc Ls (.int nn :: .int dp :: .ref A :: .int sp :: .ref A :: rest)) rfl hsize rfl hd hf (W := W) (by show 2 * 0 + _ ≤ _; rw [Nat.mul_zero, Nat.zero_add]; exact hW) hlo
  refine ⟨T', h', L, X', e', N', K', ⟨k, V', O, ?_⟩, Pres.cpR Ar K', st⟩
  simp only [List.length_append, List.length_take, List.length_map, List.length_range, List.length_drop, ln]
  rw [l4] at h5
  omega
/-- a chunk is put into the array -/
theorem aastR (X : Stand p l e R s m args below meth c T locs cells slots) (hx : p.tables.exec = Jvm.exec) (hZ : Z.Warmed39 s.vm) (eT : T.heap = h) {j : Int32} (F : RA Z h A vs) (q : ¬ j < 0 ∧ j < (4 : Int32)) (E : Exa Z h b nCh) {pc : Nat} {Ls : Array Slot} {rest : List Value} (hd : decode c.code pc = .ok (.aastore, 1)) :
    ∃ T' h', Stand p l e R s m args below meth c T' (locs ++ [⟨A, j.toNatClampNeg⟩]) cells slots ∧ T'.heap = h' ∧ Wr h h' A j.toNatClampNeg (.ref b) ∧ RA Z h' A (vs.set j.toNatClampNeg (.ref b)) ∧ Pres Z a0 h h' [(A, "[]")] ∧
      ∀ target, Steps p.tables e below (T'.setTop (mkF m (pc + 1) Ls rest)) target → Steps p.tables e below (T.setTop (mkF m pc Ls (.ref b :: .int j :: .ref A :: rest))) target := by
  obtain ⟨cl0, Ar0, -⟩ := F.arl
  obtain ⟨k, ⟨cl, Ar, q1, S, q3, H, G⟩, O, ln⟩ := F
  have hin := inb_of S q
  obtain ⟨T', h', X', e', W, st⟩ := stR X hx hZ eT Ar hin rfl (Sto.ofV Ar q1 O (Ins.self E)) (g := mkF m pc Ls (.ref b :: .int j :: .ref A :: rest)) rfl rfl hd
  refine ⟨T', h', X', e', W, ⟨k, Arv.set Ar q1 S q3 H G rfl W j.toNatClampNeg rfl ?_, O, by rw [List.length_set]; exact ln⟩, Pres.wrR Ar0 W, st⟩
  have := Nat.lt_of_not_le fun y => hin (Or.inr y)
  rw [S, show (4 : Int32).toNatClampNeg = 4 from rfl] at this
  omega
/-- how many chunks there can be after I splits, and how many steps in each -/
def JJ (I : Int) (cc : Int32) (σ : Int) : Prop := (cc = 1 ∧ σ ≤ 1 + I) ∨ (cc = 2 ∧ σ ≤ I - 1 ∧ 4 ≤ I) ∨ (cc = 3 ∧ 6 ≤ I)
theorem JJ.cc {I σ : Int} {cc : Int32} (q : JJ I cc σ) : cc = 1 ∨ cc = 2 ∨ cc = 3 := by
  rcases q with q | q | q
  · exact Or.inl q.1
  · exact Or.inr (Or.inl q.1)
  · exact Or.inr (Or.inr q.1)
theorem JJ.ccI {I σ : Int} {cc : Int32} (q : JJ I cc σ) : 1 ≤ cc.toInt ∧ cc.toInt ≤ 3 := by rcases q.cc with rfl | rfl | rfl <;> decide
theorem JJ.two {I σ : Int} {cc : Int32} (q : JJ I cc σ) (h : I ≤ 5) : cc.toInt ≤ 2 := by
  rcases q with q | q | q
  · rw [q.1]; decide
  · rw [q.1]; decide
  · omega
theorem JJ.up {I σ : Int} {cc : Int32} (q : JJ I cc σ) (h : I ≤ 5) : JJ (I + 1) cc (σ + 1) := by
  rcases q with q | q | q
  · exact Or.inl ⟨q.1, by omega⟩
  · exact Or.inr (Or.inl ⟨q.1, by omega, by omega⟩)
  · omega
theorem JJ.stay {I σ : Int} {cc : Int32} (q : JJ I cc σ) : JJ (I + 1) cc σ := by
  rcases q with q | q | q
  · exact Or.inl ⟨q.1, by omega⟩
  · exact Or.inr (Or.inl ⟨q.1, by omega, by omega⟩)
  · exact Or.inr (Or.inr ⟨q.1, by omega⟩)
theorem d4_of {x : Int32} {a : Int} (hx : x.toInt = a) (q : 1 ≤ a ∧ a ≤ 4) : x = 1 ∨ x = 2 ∨ x = 3 ∨ x = 4 := by
  have : x.toInt = 1 ∨ x.toInt = 2 ∨ x.toInt = 3 ∨ x.toInt = 4 := by omega
  rcases this with u | u | u | u
  · exact Or.inl (Int32.toInt_inj.mp u)
  · exact Or.inr (Or.inl (Int32.toInt_inj.mp u))
  · exact Or.inr (Or.inr (Or.inl (Int32.toInt_inj.mp u)))
  · exact Or.inr (Or.inr (Or.inr (Int32.toInt_inj.mp u)))
/-- the steps as they stand after I splits; all of them at k or above -/
def Inv (Z : State) (a0 : Array Value) (h : Heap) (k : Nat) (st : Addr) (I : Int) : Prop := ∃ (B A ft pk : Addr) (vs : List Value) (cc lf sc ss : Int32) (bv : Int64) (σ : Int), (k ≤ st ∧ k ≤ B ∧ k ≤ A ∧ k ≤ ft ∧ k ≤ pk) ∧
  FE Z a0 h st nSt "chunkSize" "I" (.int 4) ∧ FE Z a0 h st nSt "kinds" "I" (.int 1) ∧ FE Z a0 h st nSt "chunks" dCh (.ref A) ∧ FE Z a0 h st nSt "firstTimes" "[J" (.ref ft) ∧ FE Z a0 h st nSt "peaks" "[J" (.ref pk) ∧
  FE Z a0 h st nSt "chunkCount" "I" (.int cc) ∧ FE Z a0 h st nSt "lastFloor" "I" (.int lf) ∧ FE Z a0 h st nSt "splitChunk" "I" (.int sc) ∧ FE Z a0 h st nSt "splitStep" "I" (.int ss) ∧ (0 ≤ lf.toInt ∧ 0 ≤ sc.toInt ∧ 0 ≤ ss.toInt) ∧
  LJ Z h ft 4 ∧ LJ Z h pk 4 ∧ RA Z h A vs ∧ CC Z a0 h k h.size B vs cc σ ∧ FE Z a0 h B nBl "count" "I" (.int cc) ∧ FE Z a0 h B nBl "version" "J" (.long bv) ∧ JJ I cc σ
theorem Inv.same {k : Nat} {st : Addr} {I : Int} (F : Inv Z a0 h k st I) (hs : h.size ≤ h'.size) (q : ∀ x, k ≤ x → x < h.size → h'[x]? = h[x]?) : Inv Z a0 h' k st I := by
  obtain ⟨B, A, ft, pk, vs, cc, lf, sc, ss, bv, σ, g, h1, h2, h3, h4, h5, h6, h7, h8, h9, h10, h11, h12, h13, h14, h15, h16, h17⟩ := F
  have qs := q st g.1 h1.lt
  have qb := q B g.2.1 h15.lt
  exact ⟨B, A, ft, pk, vs, cc, lf, sc, ss, bv, σ, g, h1.same qs, h2.same qs, h3.same qs, h4.same qs, h5.same qs, h6.same qs, h7.same qs, h8.same qs, h9.same qs, h10, h11.same (q _ g.2.2.2.1 h11.lt), h12.same (q _ g.2.2.2.2 h12.lt), h13.same (q _ g.2.2.1 h13.lt),
    (h14.same q).top (Nat.le_refl _), h15.same qb, h16.same qb, h17⟩
theorem Inv.ext {k : Nat} {st : Addr} {I : Int} (F : Inv Z a0 h k st I) (E : Ext h h') : Inv Z a0 h' k st I := F.same E.1 fun x _ q => ext_out E x q
theorem Inv.wr {k : Nat} {st : Addr} {I : Int} (F : Inv Z a0 h k st I) (W : Wr h h' a sl v) (q : a < k) : Inv Z a0 h' k st I := F.same (Nat.le_of_eq W.size.symm) fun x u _ => wr_out W x (Nat.ne_of_gt (Nat.lt_of_lt_of_le q u))
theorem Inv.keep {k : Nat} {st : Addr} {I : Int} {ws : List Addr} (F : Inv Z a0 h k st I) (K : Keep h h' ws) (q : ∀ x ∈ ws, x < k ∨ h.size ≤ x) : Inv Z a0 h' k st I := F.same K.1 fun x u1 u2 => keep_out K x u2 fun z => by
  rcases q x z with r | r
  · exact absurd u1 (Nat.not_le.mpr r)
  · exact absurd u2 (Nat.not_lt.mpr r)
theorem kw0 {k : Nat} {m : Nat} : ∀ x ∈ ([] : List Addr), x < k ∨ m ≤ x := fun x q => nomatch q
theorem kw1 {k : Nat} {m : Nat} {ws : List Addr} (q : a < k ∨ m ≤ a) (r : ∀ x ∈ ws, x < k ∨ m ≤ x) : ∀ x ∈ a :: ws, x < k ∨ m ≤ x := fun x z => by
  rcases List.mem_cons.mp z with rfl | z
  · exact q
  · exact r x z
/-- what putting a chunk in at 'at' makes of the array -/
def insP (vs vs' : List Value) (cc at_ : Int32) (v : Value) : Prop := ∀ i : Nat, i < cc.toNatClampNeg + 1 → vs'[i]? = if i < at_.toNatClampNeg then vs[i]? else if i = at_.toNatClampNeg then some v else vs[i - 1]?
theorem insP_of {cc at_ nn dp : Int32} {v : Value} (hl : vs.length = 4) (hc : (cc = 1 ∧ at_ = 1) ∨ (cc = 2 ∧ at_ = 1) ∨ (cc = 2 ∧ at_ = 2)) (hn : nn = cc - at_) (hp : dp = at_ + 1) :
    insP vs ((vs.take dp.toNatClampNeg ++ (List.range nn.toNatClampNeg).map (fun i => vs.getD (at_.toNatClampNeg + i) .null) ++ vs.drop (dp.toNatClampNeg + nn.toNatClampNeg)).set at_.toNatClampNeg v) cc at_ v := by
  match vs, hl with
  | [x0, x1, x2, x3], _ =>
  subst hn hp
  rcases hc with ⟨rfl, rfl⟩ | ⟨rfl, rfl⟩ | ⟨rfl, rfl⟩
  · intro i hi
    have hi : i < 2 := hi
    match i, hi with
    | 0, _ => rfl
    | 1, _ => rfl
  · intro i hi
    have hi : i < 3 := hi
    match i, hi with
    | 0, _ => rfl
    | 1, _ => rfl
    | 2, _ => rfl
  · intro i hi
    have hi : i < 3 := hi
    match i, hi with
    | 0, _ => rfl
    | 1, _ => rfl
    | 2, _ => rfl
theorem ge_cases {cc r at_ : Int32} {x : Int} (hr : r.toInt = x) (h0 : 0 ≤ x ∧ x < cc.toInt ∧ cc.toInt ≤ 2) (ha : at_.toInt = x + 1) : (cc = 1 ∧ at_ = 1) ∨ (cc = 2 ∧ at_ = 1) ∨ (cc = 2 ∧ at_ = 2) := by
  have c1 : cc.toInt = 1 ∨ cc.toInt = 2 := by omega
  rcases c1 with c1 | c1
  · exact Or.inl ⟨Int32.toInt_inj.mp c1, Int32.toInt_inj.mp (show at_.toInt = 1 by omega)⟩
  · have a1 : at_.toInt = 1 ∨ at_.toInt = 2 := by omega
    rcases a1 with a1 | a1
    · exact Or.inr (Or.inl ⟨Int32.toInt_inj.mp c1, Int32.toInt_inj.mp a1⟩)
    · exact Or.inr (Or.inr ⟨Int32.toInt_inj.mp c1, Int32.toInt_inj.mp a1⟩)
/-- the chunks after a chunk was split: the old ones, c among them, and the new one d -/
theorem CC.ins {k top top' : Nat} {B cA cB : Addr} {cc r at_ : Int32} {σ I : Int} (F : CC Z a0 h k top B vs cc σ) (J : JJ I cc σ) (hI : I ≤ 5) (h4 : 4 ≤ σ) (hr : vs[r.toNatClampNeg]? = some (.ref cA)) (hc : (cc = 1 ∧ at_ = 1) ∨ (cc = 2 ∧ at_ = 1) ∨ (cc = 2 ∧ at_ = 2)) (ha : at_.toInt = r.toInt + 1)
    (P : insP vs vs' cc at_ (.ref cB)) (FA : ChR Z a0 h k B 3 cA) (FB : ChR Z a0 h k B 3 cB) (ht : h.size ≤ top') : ∃ σ', CC Z a0 h k top' B vs' (cc + 1) σ' ∧ JJ (I + 1) (cc + 1) σ' := by
  rcases hc with ⟨rfl, rfl⟩ | q
  · have r0 : r = 0 := Int32.toInt_inj.mp (by have : (1 : Int32).toInt = 1 := rfl; show r.toInt = 0; omega)
    subst r0
    have hI3 : 3 ≤ I := by
      rcases J with J | J | J
      · omega
      · exact absurd J.1 (by decide)
      · exact absurd J.1 (by decide)
    refine ⟨I, fun i hi => ?_, Or.inr (Or.inl ⟨by decide, by omega, by omega⟩)⟩
    have hi : i < 2 := hi
    match i, hi with
    | 0, _ =>
      have e := P 0 (by decide)
      exact ⟨cA, e.trans hr, Nat.lt_of_lt_of_le FA.lt ht, FA.mono hI3⟩
    | 1, _ =>
      have e := P 1 (by decide)
      exact ⟨cB, e, Nat.lt_of_lt_of_le FB.lt ht, FB.mono hI3⟩
  · have e2 : cc = 2 := by rcases q with q | q <;> exact q.1
    subst e2
    have hI5 : 5 ≤ I := by
      rcases J with J | J | J
      · exact absurd J.1 (by decide)
      · omega
      · exact absurd J.1 (by decide)
    refine ⟨4, fun i hi => ?_, Or.inr (Or.inr ⟨by decide, by omega⟩)⟩
    have hi : i < 3 := hi
    have e := P i hi
    by_cases u1 : i < at_.toNatClampNeg
    · rw [if_pos u1] at e
      have hi2 : i < 2 := by rcases q with ⟨-, rfl⟩ | ⟨-, rfl⟩ <;> (have u1 := u1; first | exact Nat.lt_of_lt_of_le u1 (by decide))
      obtain ⟨c, e1, -, e3⟩ := F i hi2
      exact ⟨c, e.trans e1, Nat.lt_of_lt_of_le e3.lt ht, e3.four⟩
    · rw [if_neg u1] at e
      by_cases u2 : i = at_.toNatClampNeg
      · rw [if_pos u2] at e
        exact ⟨cB, e, Nat.lt_of_lt_of_le FB.lt ht, (FB.mono (σ' := 4) (by decide))⟩
      · rw [if_neg u2] at e
        have hi2 : i - 1 < 2 := by omega
        obtain ⟨c, e1, -, e3⟩ := F (i - 1) hi2
        exact ⟨c, e.trans e1, Nat.lt_of_lt_of_le e3.lt ht, e3.four⟩
theorem own_hel {k top : Nat} {B : Addr} {cc r q2 nn : Int32} {σ x : Int} (F : CC Z a0 h k top B vs cc σ) (hr : r.toInt = x) (h0 : 0 ≤ x ∧ x < cc.toInt ∧ cc.toInt ≤ 3) (hq : q2 = r + 1) (hn : nn = cc - q2) : ∀ i : Nat, i < nn.toNatClampNeg → ∃ c : Addr, vs[q2.toNatClampNeg + i]? = some (.ref c) ∧ Exa Z h c nCh := by
  have e1 : q2.toInt = x + 1 := by rw [hq]; exact n_add hr rfl (by omega)
  have e2 : nn.toInt = cc.toInt - (x + 1) := by rw [hn]; exact n_sub rfl e1 (by omega)
  intro i hi
  have hi' : i < nn.toInt.toNat := hi
  obtain ⟨c, u1, -, u3⟩ := F (q2.toNatClampNeg + i) (by show q2.toInt.toNat + i < cc.toInt.toNat; omega)
  obtain ⟨-, t, u, s, f, sz, y, z, -, G, -⟩ := u3
  exact ⟨c, u1, G.1⟩
theorem Inv.exa {k : Nat} {st : Addr} {I : Int} (F : Inv Z a0 h k st I) : Exa Z h st nSt := by
  obtain ⟨B, A, ft, pk, vs, cc, lf, sc, ss, bv, σ, g, h1, -⟩ := F; exact h1.1
theorem Inv.lt {k : Nat} {st : Addr} {I : Int} (F : Inv Z a0 h k st I) : st < h.size := F.exa.lt
theorem Inv.ksz {k : Nat} {st : Addr} {I : Int} (F : Inv Z a0 h k st I) : k ≤ h.size := by
  obtain ⟨B, A, ft, pk, vs, cc, lf, sc, ss, bv, σ, g, h1, -⟩ := F; exact Nat.le_trans g.1 (Nat.le_of_lt h1.lt)
/-- the cells from k on, below m, stand as they stood -/
def OUT (k m : Nat) (h h' : Heap) : Prop := ∀ x, k ≤ x → x < m → h'[x]? = h[x]?
theorem OUT.refl (k m : Nat) (h : Heap) : OUT k m h h := fun _ _ _ => rfl
theorem OUT.ext {k m : Nat} (O : OUT k m h h') (E : Ext h' h'') (q : m ≤ h'.size) : OUT k m h h'' := fun x u1 u2 => (ext_out E x (Nat.lt_of_lt_of_le u2 q)).trans (O x u1 u2)
theorem OUT.wr {k m : Nat} (O : OUT k m h h') (W : Wr h' h'' a sl v) (q : a < k ∨ m ≤ a) : OUT k m h h'' := fun x u1 u2 => (wr_out W x (fun e => by
  subst e
  rcases q with q | q
  · exact absurd u1 (Nat.not_le.mpr q)
  · exact absurd u2 (Nat.not_lt.mpr q))).trans (O x u1 u2)
theorem OUT.keep {k m : Nat} {ws : List Addr} (O : OUT k m h h') (K : Keep h' h'' ws) (q : m ≤ h'.size) (r : ∀ x ∈ ws, x < k ∨ m ≤ x) : OUT k m h h'' := fun x u1 u2 => (keep_out K x (Nat.lt_of_lt_of_le u2 q) (fun z => by
  rcases r x z with q | q
  · exact absurd u1 (Nat.not_le.mpr q)
  · exact absurd u2 (Nat.not_lt.mpr q))).trans (O x u1 u2)
theorem CC.one {k : Nat} {B c : Addr} {σ : Int} (hv : vs[0]? = some (.ref c)) (F : ChR Z a0 h k B σ c) : CC Z a0 h k h.size B vs 1 σ := fun i hi => by
  have hi : i < 1 := hi
  match i, hi with
  | 0, _ => exact ⟨c, hv, F.lt, F⟩
end Own3c
section Own3d
variable {p : Program} {l : Launch} {e : Env} {R : Room} {s : State} {m : MethodId} {args : Array Value} {below : List Frame} {meth : Method} {c : Code} {T : State} {locs : List Loc} {cells slots : Nat} {Z : State} {a0 : Array Value} {h h' h0 : Heap} {a b o A : Addr} {vs : List Value}
theorem own_all1 {k : Nat} (q : k ≤ a) : ∀ x ∈ [a], k ≤ x := fun x z => by rcases List.mem_singleton.mp z with rfl; exact q
theorem RA.at {j : Int32} {w : Value} (F : RA Z h A vs) (q : ¬ j < 0 ∧ j < (4 : Int32)) (u : vs[j.toNatClampNeg]? = some w) : ∃ cl : Cell, Arr Z h A cl (.object nCh) ∧ ¬ (j < 0 ∨ cl.slots.size ≤ j.toNatClampNeg) ∧ cl.slots[j.toNatClampNeg]? = some w := by
  obtain ⟨kk, ⟨cl, Ar, q1, S, q3, H, G⟩, O, ln⟩ := F
  have hin := inb_of S q
  refine ⟨cl, Ar, hin, ?_⟩
  rw [H _ (Nat.lt_of_not_le fun y => hin (Or.inr y)), List.getD_eq_getElem?_getD, u]; rfl
theorem keep_kn {k : Nat} {ws : List Addr} (K : Keep h0 h ws) (N : KN k h h') (q : h0.size ≤ k) : Keep h0 h' ws := by
  have lt : ∀ (x : Addr) (c : Cell), h0[x]? = some c → x < k := fun x c e => Nat.lt_of_lt_of_le (Array.getElem?_eq_some_iff.mp e).1 q
  exact ⟨Nat.le_trans K.1 N.1, fun x c e u => (N.2 x (lt x c e)).trans (K.2.1 x c e u), fun x c e => by
    obtain ⟨c', e1, e2⟩ := K.2.2 x c e
    exact ⟨c', (N.2 x (lt x c e)).trans e1, e2⟩⟩
theorem own_specialRef (X : Stand p l e R s m args below meth c T locs cells slots) (hexec : p.tables.exec = Jvm.exec) (hZ : Z.Warmed39 s.vm) {own : String} {index : Nat} {y : MethodName} (hy1 : y.name = "<init>")
    (hown : s.vm.findClass own = some m.cls) (w : (Cond.methodRef own index y).before a0 Z = true) (hinst : (Cond.instanceMethod y).before args s = true)
    {bytes : ByteArray} {maxL : Nat} (hcode : (Cond.code y bytes maxL none).before args s = true)
    (hy : y.cls ≠ "java/lang/invoke/MethodHandle" ∧ y.cls ≠ "java/lang/invoke/VarHandle")
    {W : Nat} {Pre : Pt → Array Value → Prop} {Post : Pt → Array Value → Option Value → Pt → Prop} (hK : Back l R p e below s args y 3 W Pre Post)
    {g : JFrame} (hg : g.method = m) (hsize : g.locals.size = c.maxLocals) {s₀ : State} (hcome : Steps p.tables e below s₀ (T.setTop g)) {a : Addr} {argsL rest : List Value}
    (hlen : ∀ sig, parseMethodDescriptor y.desc = some sig → argsL.length = sig.parameters.length) (hstack : g.stack = argsL.reverse ++ .ref a :: rest) (hW : 2 * g.monitorRoom + (rest.map fun v => v.category).sum ≤ W)
    (hdg : decode c.code g.pc = .ok (.invokespecial index, 3)) (hpre : ∀ vm₁, s.WarmedH vm₁ → Pre ⟨T.setVm vm₁, locs, cells, slots⟩ (.ref a :: argsL).toArray) :
    ∃ (v : Option Value) (vm₁ : Vm) (B : Pt), s.WarmedH vm₁ ∧ Stand p l e R s m args below meth c B.U B.locs B.cells B.slots ∧ Post ⟨T.setVm vm₁, locs, cells, slots⟩ (.ref a :: argsL).toArray v B ∧
      Steps p.tables e below s₀ (B.U.setTop { g with pc := g.pc + 3, stack := v.toList ++ rest }) :=
  (own_scall (R := R) (meth := meth) (c := c) (below := below) (l := l) (e := e) hexec hZ hy1 hown w hinst hcode hy) X hK hg hsize hcome hlen hstack hW hdg hpre
end Own3d
section Own3e
variable {p : Program} {l : Launch} {e : Env} {R : Room} {s : State} {m : MethodId} {args : Array Value} {below : List Frame} {meth : Method} {c : Code} {T T' T0 s₁ : State} {g0 F0 E0 : JFrame} {locs : List Loc} {cells slots pc k kc kn : Nat} {Ls : Array Slot} {S S' rest : List Value} {Z : State} {a0 : Array Value} {h h' : Heap} {a b : Addr} {α β : Type} {own C f f' d : String} {index : Nat} {v old : Value} {ty : FieldType} {D : List (Addr × String)} {n j x z zz : Int32} {y : Int64}
abbrev nxF (g : JFrame) (k : Nat) (S' : List Value) : JFrame := { g with pc := g.pc + k, stack := S' }
abbrev Nx (p : Program) (e : Env) (below : List Frame) (T : State) (m : MethodId) (pc : Nat) (Ls : Array Slot) (S : List Value) (k : Nat) (T' : State) (S' : List Value) : Prop :=
  ∀ t, Steps p.tables e below (T'.setTop (nxF (mkF m pc Ls S) k S')) t → Steps p.tables e below (T.setTop (mkF m pc Ls S)) t
theorem w_1 {A B : State → Prop} (go : Go p e below T0 g0 T (mkF m pc Ls S)) (q : ∃ T', A T' ∧ B T' ∧ Nx p e below T m pc Ls S k T' S') : ∃ T', A T' ∧ B T' ∧ Go p e below T0 g0 T' (mkF m (pc + k) Ls S') := by
  obtain ⟨T', a, b, st⟩ := q
  exact ⟨T', a, b, fun t k => go t (st t k)⟩
theorem w_2 {A B C : State → α → Prop} (go : Go p e below T0 g0 T (mkF m pc Ls S)) (q : ∃ T' x, A T' x ∧ B T' x ∧ C T' x ∧ Nx p e below T m pc Ls S k T' S') : ∃ T' x, A T' x ∧ B T' x ∧ C T' x ∧ Go p e below T0 g0 T' (mkF m (pc + k) Ls S') := by
  obtain ⟨T', x, a, b, c, st⟩ := q
  exact ⟨T', x, a, b, c, fun t k => go t (st t k)⟩
theorem w_3 {A B C D : State → α → β → Prop} (go : Go p e below T0 g0 T (mkF m pc Ls S)) (q : ∃ T' x y, A T' x y ∧ B T' x y ∧ C T' x y ∧ D T' x y ∧ Nx p e below T m pc Ls S k T' S') : ∃ T' x y, A T' x y ∧ B T' x y ∧ C T' x y ∧ D T' x y ∧ Go p e below T0 g0 T' (mkF m (pc + k) Ls S') := by
  obtain ⟨T', x, y, a, b, c, d, st⟩ := q
  exact ⟨T', x, y, a, b, c, d, fun t k => go t (st t k)⟩
theorem w_3b {A B C D E : State → α → β → Prop} (go : Go p e below T0 g0 T (mkF m pc Ls S)) (q : ∃ T' x y, A T' x y ∧ B T' x y ∧ C T' x y ∧ D T' x y ∧ E T' x y ∧ Nx p e below T m pc Ls S k T' S') : ∃ T' x y, A T' x y ∧ B T' x y ∧ C T' x y ∧ D T' x y ∧ E T' x y ∧ Go p e below T0 g0 T' (mkF m (pc + k) Ls S') := by
  obtain ⟨T', x, y, a, b, c, d, e, st⟩ := q
  exact ⟨T', x, y, a, b, c, d, e, fun t k => go t (st t k)⟩
theorem w_4 {A B C D E F : State → α → Prop} (go : Go p e below T0 g0 T (mkF m pc Ls S)) (q : ∃ T' x, A T' x ∧ B T' x ∧ C T' x ∧ D T' x ∧ E T' x ∧ F T' x ∧ Nx p e below T m pc Ls S k T' (v :: (mkF m pc Ls S).stack)) : ∃ T' x, A T' x ∧ B T' x ∧ C T' x ∧ D T' x ∧ E T' x ∧ F T' x ∧ Go p e below T0 g0 T' (mkF m (pc + k) Ls (v :: S)) := by
  obtain ⟨T', x, a, b, c, d, e, f, st⟩ := q
  exact ⟨T', x, a, b, c, d, e, f, fun t k => go t (st t k)⟩
theorem w_5 {A B C D E : State → α → Prop} (go : Go p e below T0 g0 T (mkF m pc Ls S)) (q : ∃ T' x, A T' x ∧ B T' x ∧ C T' x ∧ D T' x ∧ E T' x ∧ Nx p e below T m pc Ls S k T' S') : ∃ T' x, A T' x ∧ B T' x ∧ C T' x ∧ D T' x ∧ E T' x ∧ Go p e below T0 g0 T' (mkF m (pc + k) Ls S') := by
  obtain ⟨T', x, a, b, c, d, e, st⟩ := q
  exact ⟨T', x, a, b, c, d, e, fun t k => go t (st t k)⟩
theorem glm {g g' : JFrame} (go : Go p e below T0 g0 T g) (st : ∀ t, Steps p.tables e below (T'.setTop g') t → Steps p.tables e below (T.setTop g) t) : Go p e below T0 g0 T' g' := fun t q => go t (st t q)
theorem c_s {W : Vm → Prop} {X : Pt → Prop} {P : Option Value → Vm → Pt → Prop} (go : Go p e below T0 g0 T (mkF m pc Ls S))
    (q : ∃ v vm₁ B, W vm₁ ∧ X B ∧ P v vm₁ B ∧ ∀ t, Steps p.tables e below (B.U.setTop (nxF (mkF m pc Ls S) 3 (v.toList ++ rest))) t → Steps p.tables e below (T.setTop (mkF m pc Ls S)) t) :
    ∃ v vm₁ B, W vm₁ ∧ X B ∧ P v vm₁ B ∧ Go p e below T0 g0 B.U (mkF m (pc + 3) Ls (v.toList ++ rest)) := by
  obtain ⟨v, vm₁, B, a, b, c, st⟩ := q
  exact ⟨v, vm₁, B, a, b, c, fun t k => go t (st t k)⟩
theorem c_b {W : Vm → Prop} {X : Pt → Prop} {P : Option Value → Vm → Pt → Prop} (go : Go p e below T0 g0 T (mkF m pc Ls S))
    (q : ∃ v vm₁ B, W vm₁ ∧ X B ∧ P v vm₁ B ∧ Steps p.tables e below (T.setTop (mkF m pc Ls S)) (B.U.setTop (nxF (mkF m pc Ls S) 3 (v.toList ++ rest)))) :
    ∃ v vm₁ B, W vm₁ ∧ X B ∧ P v vm₁ B ∧ Go p e below T0 g0 B.U (mkF m (pc + 3) Ls (v.toList ++ rest)) := by
  obtain ⟨v, vm₁, B, a, b, c, st⟩ := q
  exact ⟨v, vm₁, B, a, b, c, fun t k => go t (st.trans k)⟩
theorem cv (go : Go p e below T0 g0 T (mkF m pc Ls ((none : Option Value).toList ++ S))) : Go p e below T0 g0 T (mkF m pc Ls S) := go
theorem cr (go : Go p e below T0 g0 T (mkF m pc Ls ((some v).toList ++ S))) : Go p e below T0 g0 T (mkF m pc Ls (v :: S)) := go
theorem gF (go : Go p e below T0 g0 T (mkF m pc Ls (.ref a :: S))) (X : Stand p l e R s m args below meth c T locs cells slots) (hx : p.tables.exec = Jvm.exec) (hZ : Z.Warmed39 s.vm) (hown : s.vm.findClass own = some m.cls) (w : (Cond.fieldLink own index C f d).before a0 Z = true)
    (eT : T.heap = h) (F : Fld Z h a C f d v) (hd : decode c.code pc = .ok (.getfield index, 3)) : ∃ T', Stand p l e R s m args below meth c T' locs cells slots ∧ T'.heap = h ∧ Go p e below T0 g0 T' (mkF m (pc + 3) Ls (v :: S)) :=
  w_1 go (getF X hx hZ hown (host := "") (Or.inl w) Via.refl eT F (g := mkF m pc Ls (.ref a :: S)) rfl rfl hd)
theorem gN {host : String} (go : Go p e below T0 g0 T (mkF m pc Ls (.ref a :: S))) (X : Stand p l e R s m args below meth c T locs cells slots) (hx : p.tables.exec = Jvm.exec) (hZ : Z.Warmed39 s.vm) (hown : s.vm.findClass own = some m.cls) (w : (Cond.fieldLinkNest own index C f d host).before a0 Z = true)
    (eT : T.heap = h) (F : Fld Z h a C f d v) (hd : decode c.code pc = .ok (.getfield index, 3)) : ∃ T', Stand p l e R s m args below meth c T' locs cells slots ∧ T'.heap = h ∧ Go p e below T0 g0 T' (mkF m (pc + 3) Ls (v :: S)) :=
  w_1 go (getF X hx hZ hown (Or.inr w) Via.refl eT F (g := mkF m pc Ls (.ref a :: S)) rfl rfl hd)
theorem pFF {host : String} (go : Go p e below T0 g0 T (mkF m pc Ls (v :: .ref a :: S))) (X : Stand p l e R s m args below meth c T locs cells slots) (hx : p.tables.exec = Jvm.exec) (hZ : Z.Warmed39 s.vm) (hown : s.vm.findClass own = some m.cls) (w : (Cond.fieldLink own index C f d).before a0 Z = true ∨ (Cond.fieldLinkNest own index C f d host).before a0 Z = true)
    (eT : T.heap = h) (F : FE Z a0 h a C f d old) (L : (Cond.lays C C f d).before a0 Z = true ∨ ((Cond.laysFinal C C f d).before a0 Z = true ∧ own = C ∧ meth.name = "<init>")) (hty : parseFieldDescriptor d = some ty) (hn : narrow ty v = v) (hf : fits ty v = true) (hd : decode c.code pc = .ok (.putfield index, 3)) :
    ∃ T' h', Stand p l e R s m args below meth c T' (locs ++ [⟨a, Jvm.RoadKit.slotOf Z C f d⟩]) cells slots ∧ T'.heap = h' ∧ Wr h h' a (Jvm.RoadKit.slotOf Z C f d) v ∧ Go p e below T0 g0 T' (mkF m (pc + 3) Ls S) := by
  obtain ⟨E, F, -, -, k, wi⟩ := F
  exact w_2 go (putF X hx hZ hown w Via.refl eT F E L wi hty hn hf (g := mkF m pc Ls (v :: .ref a :: S)) rfl rfl hd)
theorem pF (go : Go p e below T0 g0 T (mkF m pc Ls (v :: .ref a :: S))) (X : Stand p l e R s m args below meth c T locs cells slots) (hx : p.tables.exec = Jvm.exec) (hZ : Z.Warmed39 s.vm) (hown : s.vm.findClass own = some m.cls) (w : (Cond.fieldLink own index C f d).before a0 Z = true)
    (eT : T.heap = h) (F : FE Z a0 h a C f d old) (L : (Cond.lays C C f d).before a0 Z = true ∨ ((Cond.laysFinal C C f d).before a0 Z = true ∧ own = C ∧ meth.name = "<init>")) (hty : parseFieldDescriptor d = some ty) (hn : narrow ty v = v) (hf : fits ty v = true) (hd : decode c.code pc = .ok (.putfield index, 3)) :
    ∃ T' h', Stand p l e R s m args below meth c T' (locs ++ [⟨a, Jvm.RoadKit.slotOf Z C f d⟩]) cells slots ∧ T'.heap = h' ∧ Wr h h' a (Jvm.RoadKit.slotOf Z C f d) v ∧ Go p e below T0 g0 T' (mkF m (pc + 3) Ls S) := pFF (host := "") go X hx hZ hown (Or.inl w) eT F L hty hn hf hd
theorem pN {host : String} (go : Go p e below T0 g0 T (mkF m pc Ls (v :: .ref a :: S))) (X : Stand p l e R s m args below meth c T locs cells slots) (hx : p.tables.exec = Jvm.exec) (hZ : Z.Warmed39 s.vm) (hown : s.vm.findClass own = some m.cls) (w : (Cond.fieldLinkNest own index C f d host).before a0 Z = true)
    (eT : T.heap = h) (F : FE Z a0 h a C f d old) (L : (Cond.lays C C f d).before a0 Z = true ∨ ((Cond.laysFinal C C f d).before a0 Z = true ∧ own = C ∧ meth.name = "<init>")) (hty : parseFieldDescriptor d = some ty) (hn : narrow ty v = v) (hf : fits ty v = true) (hd : decode c.code pc = .ok (.putfield index, 3)) :
    ∃ T' h', Stand p l e R s m args below meth c T' (locs ++ [⟨a, Jvm.RoadKit.slotOf Z C f d⟩]) cells slots ∧ T'.heap = h' ∧ Wr h h' a (Jvm.RoadKit.slotOf Z C f d) v ∧ Go p e below T0 g0 T' (mkF m (pc + 3) Ls S) := pFF go X hx hZ hown (Or.inr w) eT F L hty hn hf hd
theorem lI (go : Go p e below T0 g0 T (mkF m pc Ls (.int j :: .ref a :: S))) (X : Stand p l e R s m args below meth c T locs cells slots) (hx : p.tables.exec = Jvm.exec) (hZ : Z.Warmed39 s.vm) (eT : T.heap = h) (A : LI Z h a n) (q : ¬ j < 0 ∧ j < n) (hd : decode c.code pc = .ok (.iaload, 1)) :
    ∃ x : Int32, Go p e below T0 g0 T (mkF m (pc + 1) Ls (.int x :: S)) := by
  obtain ⟨cl, x, Ar, hin, hat⟩ := A.at q
  exact ⟨x, fun t k => go t (o_iaload X hx hZ eT Ar hin hat hd k)⟩
theorem lJ (go : Go p e below T0 g0 T (mkF m pc Ls (.int j :: .ref a :: S))) (X : Stand p l e R s m args below meth c T locs cells slots) (hx : p.tables.exec = Jvm.exec) (hZ : Z.Warmed39 s.vm) (eT : T.heap = h) (A : LJ Z h a n) (q : ¬ j < 0 ∧ j < n) (hd : decode c.code pc = .ok (.laload, 1)) :
    ∃ x : Int64, Go p e below T0 g0 T (mkF m (pc + 1) Ls (.long x :: S)) := by
  obtain ⟨cl, x, Ar, hin, hat⟩ := A.at q
  exact ⟨x, fun t k => go t (o_laload X hx hZ eT Ar hin hat hd k)⟩
theorem sI (go : Go p e below T0 g0 T (mkF m pc Ls (.int x :: .int j :: .ref a :: S))) (X : Stand p l e R s m args below meth c T locs cells slots) (hx : p.tables.exec = Jvm.exec) (hZ : Z.Warmed39 s.vm) (eT : T.heap = h) (A : LI Z h a n) (q : ¬ j < 0 ∧ j < n) (hd : decode c.code pc = .ok (.iastore, 1)) :
    ∃ T' h', Stand p l e R s m args below meth c T' (locs ++ [⟨a, j.toNatClampNeg⟩]) cells slots ∧ T'.heap = h' ∧ Wr h h' a j.toNatClampNeg (.int x) ∧ Go p e below T0 g0 T' (mkF m (pc + 1) Ls S) := by
  obtain ⟨cl, x0, Ar, hin, hat⟩ := A.at q
  exact w_2 go (stI X hx hZ eT Ar (j := j) (x := x) hin (g := mkF m pc Ls (.int x :: .int j :: .ref a :: S)) rfl rfl hd)
theorem sJ (go : Go p e below T0 g0 T (mkF m pc Ls (.long y :: .int j :: .ref a :: S))) (X : Stand p l e R s m args below meth c T locs cells slots) (hx : p.tables.exec = Jvm.exec) (hZ : Z.Warmed39 s.vm) (eT : T.heap = h) (A : LJ Z h a n) (q : ¬ j < 0 ∧ j < n) (hd : decode c.code pc = .ok (.lastore, 1)) :
    ∃ T' h', Stand p l e R s m args below meth c T' (locs ++ [⟨a, j.toNatClampNeg⟩]) cells slots ∧ T'.heap = h' ∧ Wr h h' a j.toNatClampNeg (.long y) ∧ Go p e below T0 g0 T' (mkF m (pc + 1) Ls S) := by
  obtain ⟨cl, x0, Ar, hin, hat⟩ := A.at q
  exact w_2 go (stJ X hx hZ eT Ar (j := j) (x := y) hin (g := mkF m pc Ls (.long y :: .int j :: .ref a :: S)) rfl rfl hd)
theorem own_f0 {Q : Option Value → Heap → List Loc → Prop} (hl : meth.locks = false) (hx : p.tables.exec = Jvm.exec) (hr : meth.sig.returnType = none) (pre0 : ∀ t, Steps p.tables e below (s₁.setTop F0) t → Steps p.tables e below (s₁.setTop E0) t) (X : Stand p l e R s m args below meth c T locs cells slots)
    (go : Go p e below s₁ F0 T (mkF m pc Ls [])) (hd : decode c.code pc = .ok (.return_, 1)) (eh : T.heap = h) (h1 : cells ≤ kc) (h2 : slots ≤ kn) (q : Q none h locs) :
    ∃ s₂ o, Steps p.tables e below (s₁.setTop E0) s₂ ∧ s₂.status = .running ∧ Ended s₂ below o ∧ ∃ v L, o = .returned v ∧ Q v s₂.heap L ∧ FrameEnd s o s₂ L kc kn := by
  obtain ⟨fs, hr', hrun, hended, hW, hsame⟩ := X.leave (v := none) (fun _ => rfl) hl
  refine ⟨_, _, pre0 _ (go _ ?_), hrun, hended, _, _, rfl, ?_, ⟨_, rfl⟩, hW, hsame.mono h1 h2⟩
  · exact X.returnOut hx hr hd hr'
  · show Q none T.heap _
    rw [eh]; exact q
theorem own_fI {Q : Option Value → Heap → List Loc → Prop} (hl : meth.locks = false) (hx : p.tables.exec = Jvm.exec) (hr : meth.sig.returnType = some .int) (pre0 : ∀ t, Steps p.tables e below (s₁.setTop F0) t → Steps p.tables e below (s₁.setTop E0) t) (X : Stand p l e R s m args below meth c T locs cells slots)
    (go : Go p e below s₁ F0 T (mkF m pc Ls (.int z :: rest))) (hd : decode c.code pc = .ok (.ireturn, 1)) (eh : T.heap = h) (h1 : cells ≤ kc) (h2 : slots ≤ kn) (q : Q (some (.int z)) h locs) :
    ∃ s₂ o, Steps p.tables e below (s₁.setTop E0) s₂ ∧ s₂.status = .running ∧ Ended s₂ below o ∧ ∃ v L, o = .returned v ∧ Q v s₂.heap L ∧ FrameEnd s o s₂ L kc kn := by
  obtain ⟨fs, hr', hrun, hended, hW, hsame⟩ := X.leave (v := some (.int z)) (fun h => by rw [hr] at h; cases h) hl
  refine ⟨_, _, pre0 _ (go _ ?_), hrun, hended, _, _, rfl, ?_, ⟨_, rfl⟩, hW, hsame.mono h1 h2⟩
  · exact retI X hx hr hd hr'
  · show Q (some (.int z)) T.heap _
    rw [eh]; exact q
theorem own_fZ {Q : Option Value → Heap → List Loc → Prop} (hl : meth.locks = false) (hx : p.tables.exec = Jvm.exec) (hr : meth.sig.returnType = some .boolean) (pre0 : ∀ t, Steps p.tables e below (s₁.setTop F0) t → Steps p.tables e below (s₁.setTop E0) t) (X : Stand p l e R s m args below meth c T locs cells slots)
    (go : Go p e below s₁ F0 T (mkF m pc Ls (.int z :: rest))) (hd : decode c.code pc = .ok (.ireturn, 1)) (eh : T.heap = h) (h1 : cells ≤ kc) (h2 : slots ≤ kn) (hz : nar .boolean z = zz) (q : Q (some (.int zz)) h locs) :
    ∃ s₂ o, Steps p.tables e below (s₁.setTop E0) s₂ ∧ s₂.status = .running ∧ Ended s₂ below o ∧ ∃ v L, o = .returned v ∧ Q v s₂.heap L ∧ FrameEnd s o s₂ L kc kn := by
  subst hz
  obtain ⟨fs, hr', hrun, hended, hW, hsame⟩ := X.leave (v := some (.int (nar .boolean z))) (fun h => by rw [hr] at h; cases h) hl
  refine ⟨_, _, pre0 _ (go _ ?_), hrun, hended, _, _, rfl, ?_, ⟨_, rfl⟩, hW, hsame.mono h1 h2⟩
  · exact retN X hx hr (by simp) hd hr'
  · show Q (some (.int (nar .boolean z))) T.heap _
    rw [eh]; exact q
theorem nS (q : (D.all fun p => !decide (p.2 = f)) = true) : (a, f) ∉ D := fun u => by
  have r : (!decide (f = f)) = true := List.all_eq_true.mp q (a, f) u
  rw [decide_eq_true (rfl : f = f)] at r
  exact absurd r (by decide)
theorem hS {top : Nat} (q : (D.all fun p => !decide (p.2 ∈ chN)) = true) : ∀ x ∈ D, x.2 ∉ chN ∨ top ≤ x.1 := fun x u => by
  have r : (!decide (x.2 ∈ chN)) = true := List.all_eq_true.mp q x u
  refine Or.inl fun w => ?_
  rw [decide_eq_true w] at r
  exact absurd r (by decide)
theorem ninF (q : f ≠ f') (r : (a, f) ∉ D) : (a, f) ∉ (b, f') :: D := ninP (Or.inl q) r
theorem ninA (q : a ≠ b) (r : (a, f) ∉ D) : (a, f) ∉ (b, f') :: D := ninP (Or.inr q) r
theorem feN {kk : Nat} (A : Exa Z h a C) (Dn : ∀ {O nm d : String} {ty : FieldType}, Laid Z a0 C O nm d → parseFieldDescriptor d = some ty → Fld Z h a O nm d (defaultValue ty)) (ld : Laid Z a0 C C f d) (pf : parseFieldDescriptor d = some ty) (wi : (Cond.instantiable C kk).before a0 Z = true) (hv : defaultValue ty = v) : FE Z a0 h a C f d v := by
  subst hv
  exact ⟨A, Dn ld pf, ld, ⟨_, pf⟩, ⟨_, wi⟩⟩
theorem nr (x : Int32) : x.toInt = x.toInt := rfl
end Own3e
theorem own_selp {s : State} {args : Array Value} {y : MethodName} {n : Nat} (hins : (Cond.instantiable y.cls n).before args s = true) (hpriv : (Cond.privateMethod y).before args s = true) (hinst : (Cond.instanceMethod y).before args s = true) (hy : y.cls ≠ "java/lang/invoke/MethodHandle" ∧ y.cls ≠ "java/lang/invoke/VarHandle") : (Cond.selects y.cls y y).before args s = true := by
  obtain ⟨c, k, hc, hk, -, hniab, -, -⟩ := Cond.instantiable_spec hins
  exact selects_self_of_private hc hk (Bool.or_eq_false_iff.mp hniab).1 (Cond.privateMethod_at hpriv) hinst hy

theorem pf_0 : parseFieldDescriptor "I" = some .int := by decide
theorem pf_1 : parseFieldDescriptor "J" = some .long := by decide
theorem pf_2 : parseFieldDescriptor "Z" = some .boolean := by decide
theorem pf_3 : parseFieldDescriptor "Lcom/example/slackline/slackline/replay/Steps;" = some (.object "com/example/slackline/slackline/replay/Steps") := by decide
theorem pf_4 : parseFieldDescriptor "[Lcom/example/slackline/slackline/replay/Steps$FreeRuns;" = some (.array (.object "com/example/slackline/slackline/replay/Steps$FreeRuns")) := by decide
theorem pf_5 : parseFieldDescriptor "[J" = some (.array .long) := by decide
theorem pf_6 : parseFieldDescriptor "[I" = some (.array .int) := by decide
theorem pf_7 : parseFieldDescriptor dBl = some (.object "com/example/slackline/slackline/replay/Steps$Block") := by decide
theorem pf_8 : parseFieldDescriptor "Lcom/example/slackline/slackline/replay/Steps$Chunk;" = some (.object "com/example/slackline/slackline/replay/Steps$Chunk") := by decide
theorem pf_9 : parseFieldDescriptor "Lcom/example/slackline/slackline/replay/Plan;" = some (.object "com/example/slackline/slackline/replay/Plan") := by decide
theorem pf_10 : parseFieldDescriptor "Lcom/example/slackline/slackline/replay/Steps$Cursor;" = some (.object "com/example/slackline/slackline/replay/Steps$Cursor") := by decide
theorem pf_11 : parseFieldDescriptor dCh = some (.array (.object "com/example/slackline/slackline/replay/Steps$Chunk")) := by decide
theorem nl0 : (0 : Int32).toInt = 0 := rfl
theorem nl1 : (1 : Int32).toInt = 1 := rfl
theorem nl2 : (2 : Int32).toInt = 2 := rfl
theorem nl3 : (3 : Int32).toInt = 3 := rfl
theorem nl4 : (4 : Int32).toInt = 4 := rfl
theorem nl32 : (32 : Int32).toInt = 32 := rfl

theorem d1_0 : decode jdk_29_method_70_code 0 = .ok (.lload_n 0, 1) := by decide +kernel
theorem d1_1 : decode jdk_29_method_70_code 1 = .ok (.lload_n 2, 1) := by decide +kernel
theorem d1_2 : decode jdk_29_method_70_code 2 = .ok (.lcmp, 1) := by decide +kernel
theorem d1_3 : decode jdk_29_method_70_code 3 = .ok (.ifCond .gt 7, 3) := by decide +kernel
theorem d1_6 : decode jdk_29_method_70_code 6 = .ok (.lload_n 0, 1) := by decide +kernel
theorem d1_7 : decode jdk_29_method_70_code 7 = .ok (.goto 4, 3) := by decide +kernel
theorem d1_10 : decode jdk_29_method_70_code 10 = .ok (.lload_n 2, 1) := by decide +kernel
theorem d1_11 : decode jdk_29_method_70_code 11 = .ok (.lreturn, 1) := by decide +kernel
theorem ef_1 (m : MethodId) (x0 : Int64) (x1 : Int64) : entryFrame m #[(.long x0), (.long x1)] 4 = mkF m 0 #[vj x0, .second, vj x1, .second] [] := by first | (simp [entryFrame, mkF, argsToLocals, Value.category]; done) | rfl
def f1 (q1 : Int64) (q2 : Int64) : Int64 := (if q2 < q1 then q2 else q1)
def Q1 (Z : State) (q1 : Int64) (q2 : Int64) (h0 : Heap) (n0 : Nat) (v : Option Value) (h : Heap) (L : List Loc) : Prop := v = some (.long (f1 q1 q2)) ∧ Fr n0 L ∧ h = h0
set_option maxRecDepth 65536 in
set_option maxHeartbeats 40000000 in
theorem rm1 (l : Launch) (Z : State) (a0 : Array Value) (hw : ∀ d ∈ tables_1, d.before a0 Z = true) (ws : List Jvm.Cond) (q1 : Int64) (q2 : Int64) (h0 : Heap) (n0 : Nat) (Z0 : n0 ≤ h0.size) :
    MetFree l y_0 (head1 (Jvm.Cond.code y_0 jdk_29_method_70_code 4 (some .long) :: ws) ({ frames := 0, cells := 0, slots := 0, locals := 0 } : Room)) (fun a U => a = #[(.long q1), (.long q2)] ∧ Z.Warmed39 U.vm ∧ U.heap = h0) (fun _ _ _ _ _ => True) (fun _ U o U' => ∃ v L, o = .returned v ∧ Q1 Z q1 q2 h0 n0 v U'.heap L ∧ FrameEnd U o U' L ({ frames := 0, cells := 0, slots := 0, locals := 0 } : Room).cells ({ frames := 0, cells := 0, slots := 0, locals := 0 } : Room).slots) := by
  refine MetFree.of_bodySF (Jvm.Free.JP.mathPlain rfl (by decide +kernel)) hisR ?_
  intro p e s m args below meth c s₁ Bd hml0 hP hK
  obtain ⟨rfl, hZ, hh⟩ := hP
  have hx := Bd.exec
  have hby := Bd.bytes
  have hml : c.maxLocals = 4 := hml0
  have hown : s.vm.findClass "java/lang/Math" = some m.cls := findClass_of_methodNamed Bd.named
  have hnm := (name_of_methodNamed Bd.named Bd.method).1
  have X0 : Stand p l e ({ frames := 0, cells := 0, slots := 0, locals := 0 } : Room) s m #[(.long q1), (.long q2)] below meth c s₁ [] 0 0 := Stand.of_body Bd
  have e0 : s₁.heap = h0 := by rw [← hh, Bd.state]; rfl
  have N0 := Fr.nil n0
  obtain ⟨F0, hF0⟩ : ∃ F : JFrame, F = entryFrame m #[(.long q1), (.long q2)] 4 := ⟨_, rfl⟩
  have pre0 : ∀ t, Steps p.tables e below (s₁.setTop F0) t → Steps p.tables e below (s₁.setTop (entryFrame m #[(.long q1), (.long q2)] 4)) t := fun t k => hF0 ▸ k
  have go0 : Go p e below s₁ F0 s₁ (mkF m 0 #[vj q1, .second, vj q2, .second] []) := fun t k => castTop (hF0.trans (ef_1 m q1 q2)) k
  have go1 : Go p e below s₁ F0 s₁ (mkF m 3 #[vj q1, .second, vj q2, .second] [(.int (lcmpW q1 q2))]) := by
    intro t_ k_
    refine go0 t_ ?_
    refine o_lloadN X0 hx (hb hby d1_0) rfl ?_
    refine o_lloadN X0 hx (hb hby d1_1) rfl ?_
    refine o_lcmp X0 hx (hb hby d1_2) ?_
    exact k_
  by_cases hc3_2 : q2 < q1
  · skip
    have go3 : Go p e below s₁ F0 s₁ (mkF m 11 #[vj q1, .second, vj q2, .second] [(.long q2)]) := by
      intro t_ k_
      refine go1 t_ ?_
      refine o_ifYes X0 hx (hb hby d1_3) (pc' := 10) rfl (by decide) ((if0 _ _).trans (tlt ((lw_gt _ _).mpr hc3_2)).2.2.1) ?_
      refine o_lloadN X0 hx (hb hby d1_10) rfl ?_
      exact k_
    obtain ⟨fs, hr, hrun, hended, hW, hsame⟩ := X0.leave (v := some (.long q2)) (fun h => by rw [Bd.returns] at h; cases h)
    refine ⟨_, _, pre0 _ (go3 _ ?_), hrun, hended, _, _, rfl, ?_, ⟨_, rfl⟩, hW, hsame.mono (by decide) (by decide)⟩
    · skip
      exact retOut X0 hx Bd.returns rfl (Or.inr (Or.inl ⟨rfl, rfl, _, rfl⟩)) (hb hby d1_11) hr
    · show Q1 Z q1 q2 h0 n0 _ s₁.heap _
      rw [e0]
      exact ⟨(congrArg (fun z => some (Value.long z)) (show q2 = f1 q1 q2 from by unfold f1; rw [if_pos hc3_2])), N0, rfl⟩
  · skip
    have go4 : Go p e below s₁ F0 s₁ (mkF m 11 #[vj q1, .second, vj q2, .second] [(.long q1)]) := by
      intro t_ k_
      refine go1 t_ ?_
      refine o_ifNo X0 hx (hb hby d1_3) ((if0 _ _).trans (flt (fun q => hc3_2 ((lw_gt _ _).mp q))).2.2.1) ?_
      refine o_lloadN X0 hx (hb hby d1_6) rfl ?_
      refine o_goto X0 hx (hb hby d1_7) (pc' := 11) rfl (by decide) ?_
      exact k_
    obtain ⟨fs, hr, hrun, hended, hW, hsame⟩ := X0.leave (v := some (.long q1)) (fun h => by rw [Bd.returns] at h; cases h)
    refine ⟨_, _, pre0 _ (go4 _ ?_), hrun, hended, _, _, rfl, ?_, ⟨_, rfl⟩, hW, hsame.mono (by decide) (by decide)⟩
    · skip
      exact retOut X0 hx Bd.returns rfl (Or.inr (Or.inl ⟨rfl, rfl, _, rfl⟩)) (hb hby d1_11) hr
    · show Q1 Z q1 q2 h0 n0 _ s₁.heap _
      rw [e0]
      exact ⟨(congrArg (fun z => some (Value.long z)) (show q1 = f1 q1 q2 from by unfold f1; rw [if_neg hc3_2])), N0, rfl⟩

theorem d2_0 : decode jdk_29_method_66_code 0 = .ok (.lload_n 0, 1) := by decide +kernel
theorem d2_1 : decode jdk_29_method_66_code 1 = .ok (.lload_n 2, 1) := by decide +kernel
theorem d2_2 : decode jdk_29_method_66_code 2 = .ok (.lcmp, 1) := by decide +kernel
theorem d2_3 : decode jdk_29_method_66_code 3 = .ok (.ifCond .lt 7, 3) := by decide +kernel
theorem d2_6 : decode jdk_29_method_66_code 6 = .ok (.lload_n 0, 1) := by decide +kernel
theorem d2_7 : decode jdk_29_method_66_code 7 = .ok (.goto 4, 3) := by decide +kernel
theorem d2_10 : decode jdk_29_method_66_code 10 = .ok (.lload_n 2, 1) := by decide +kernel
theorem d2_11 : decode jdk_29_method_66_code 11 = .ok (.lreturn, 1) := by decide +kernel
theorem ef_2 (m : MethodId) (x0 : Int64) (x1 : Int64) : entryFrame m #[(.long x0), (.long x1)] 4 = mkF m 0 #[vj x0, .second, vj x1, .second] [] := by first | (simp [entryFrame, mkF, argsToLocals, Value.category]; done) | rfl
def f2 (q1 : Int64) (q2 : Int64) : Int64 := (if q1 < q2 then q2 else q1)
def Q2 (Z : State) (q1 : Int64) (q2 : Int64) (h0 : Heap) (n0 : Nat) (v : Option Value) (h : Heap) (L : List Loc) : Prop := v = some (.long (f2 q1 q2)) ∧ Fr n0 L ∧ h = h0
set_option maxRecDepth 65536 in
set_option maxHeartbeats 40000000 in
theorem rm2 (l : Launch) (Z : State) (a0 : Array Value) (hw : ∀ d ∈ tables_1, d.before a0 Z = true) (ws : List Jvm.Cond) (q1 : Int64) (q2 : Int64) (h0 : Heap) (n0 : Nat) (Z0 : n0 ≤ h0.size) :
    MetFree l y_1 (head1 (Jvm.Cond.code y_1 jdk_29_method_66_code 4 (some .long) :: ws) ({ frames := 0, cells := 0, slots := 0, locals := 0 } : Room)) (fun a U => a = #[(.long q1), (.long q2)] ∧ Z.Warmed39 U.vm ∧ U.heap = h0) (fun _ _ _ _ _ => True) (fun _ U o U' => ∃ v L, o = .returned v ∧ Q2 Z q1 q2 h0 n0 v U'.heap L ∧ FrameEnd U o U' L ({ frames := 0, cells := 0, slots := 0, locals := 0 } : Room).cells ({ frames := 0, cells := 0, slots := 0, locals := 0 } : Room).slots) := by
  refine MetFree.of_bodySF (Jvm.Free.JP.mathPlain rfl (by decide +kernel)) hisR ?_
  intro p e s m args below meth c s₁ Bd hml0 hP hK
  obtain ⟨rfl, hZ, hh⟩ := hP
  have hx := Bd.exec
  have hby := Bd.bytes
  have hml : c.maxLocals = 4 := hml0
  have hown : s.vm.findClass "java/lang/Math" = some m.cls := findClass_of_methodNamed Bd.named
  have hnm := (name_of_methodNamed Bd.named Bd.method).1
  have X0 : Stand p l e ({ frames := 0, cells := 0, slots := 0, locals := 0 } : Room) s m #[(.long q1), (.long q2)] below meth c s₁ [] 0 0 := Stand.of_body Bd
  have e0 : s₁.heap = h0 := by rw [← hh, Bd.state]; rfl
  have N0 := Fr.nil n0
  obtain ⟨F0, hF0⟩ : ∃ F : JFrame, F = entryFrame m #[(.long q1), (.long q2)] 4 := ⟨_, rfl⟩
  have pre0 : ∀ t, Steps p.tables e below (s₁.setTop F0) t → Steps p.tables e below (s₁.setTop (entryFrame m #[(.long q1), (.long q2)] 4)) t := fun t k => hF0 ▸ k
  have go0 : Go p e below s₁ F0 s₁ (mkF m 0 #[vj q1, .second, vj q2, .second] []) := fun t k => castTop (hF0.trans (ef_2 m q1 q2)) k
  have go1 : Go p e below s₁ F0 s₁ (mkF m 3 #[vj q1, .second, vj q2, .second] [(.int (lcmpW q1 q2))]) := by
    intro t_ k_
    refine go0 t_ ?_
    refine o_lloadN X0 hx (hb hby d2_0) rfl ?_
    refine o_lloadN X0 hx (hb hby d2_1) rfl ?_
    refine o_lcmp X0 hx (hb hby d2_2) ?_
    exact k_
  by_cases hc3_2 : q1 < q2
  · skip
    have go3 : Go p e below s₁ F0 s₁ (mkF m 11 #[vj q1, .second, vj q2, .second] [(.long q2)]) := by
      intro t_ k_
      refine go1 t_ ?_
      refine o_ifYes X0 hx (hb hby d2_3) (pc' := 10) rfl (by decide) ((if0 _ _).trans (tlt ((lw_lt _ _).mpr hc3_2)).1) ?_
      refine o_lloadN X0 hx (hb hby d2_10) rfl ?_
      exact k_
    obtain ⟨fs, hr, hrun, hended, hW, hsame⟩ := X0.leave (v := some (.long q2)) (fun h => by rw [Bd.returns] at h; cases h)
    refine ⟨_, _, pre0 _ (go3 _ ?_), hrun, hended, _, _, rfl, ?_, ⟨_, rfl⟩, hW, hsame.mono (by decide) (by decide)⟩
    · skip
      exact retOut X0 hx Bd.returns rfl (Or.inr (Or.inl ⟨rfl, rfl, _, rfl⟩)) (hb hby d2_11) hr
    · show Q2 Z q1 q2 h0 n0 _ s₁.heap _
      rw [e0]
      exact ⟨(congrArg (fun z => some (Value.long z)) (show q2 = f2 q1 q2 from by unfold f2; rw [if_pos hc3_2])), N0, rfl⟩
  · skip
    have go4 : Go p e below s₁ F0 s₁ (mkF m 11 #[vj q1, .second, vj q2, .second] [(.long q1)]) := by
      intro t_ k_
      refine go1 t_ ?_
      refine o_ifNo X0 hx (hb hby d2_3) ((if0 _ _).trans (flt (fun q => hc3_2 ((lw_lt _ _).mp q))).1) ?_
      refine o_lloadN X0 hx (hb hby d2_6) rfl ?_
      refine o_goto X0 hx (hb hby d2_7) (pc' := 11) rfl (by decide) ?_
      exact k_
    obtain ⟨fs, hr, hrun, hended, hW, hsame⟩ := X0.leave (v := some (.long q1)) (fun h => by rw [Bd.returns] at h; cases h)
    refine ⟨_, _, pre0 _ (go4 _ ?_), hrun, hended, _, _, rfl, ?_, ⟨_, rfl⟩, hW, hsame.mono (by decide) (by decide)⟩
    · skip
      exact retOut X0 hx Bd.returns rfl (Or.inr (Or.inl ⟨rfl, rfl, _, rfl⟩)) (hb hby d2_11) hr
    · show Q2 Z q1 q2 h0 n0 _ s₁.heap _
      rw [e0]
      exact ⟨(congrArg (fun z => some (Value.long z)) (show q1 = f2 q1 q2 from by unfold f2; rw [if_neg hc3_2])), N0, rfl⟩

theorem d6_0 : decode jdk_29_method_65_code 0 = .ok (.iload_n 0, 1) := by decide +kernel
theorem d6_1 : decode jdk_29_method_65_code 1 = .ok (.iload_n 1, 1) := by decide +kernel
theorem d6_2 : decode jdk_29_method_65_code 2 = .ok (.if_icmp .lt 7, 3) := by decide +kernel
theorem d6_5 : decode jdk_29_method_65_code 5 = .ok (.iload_n 0, 1) := by decide +kernel
theorem d6_6 : decode jdk_29_method_65_code 6 = .ok (.goto 4, 3) := by decide +kernel
theorem d6_9 : decode jdk_29_method_65_code 9 = .ok (.iload_n 1, 1) := by decide +kernel
theorem d6_10 : decode jdk_29_method_65_code 10 = .ok (.ireturn, 1) := by decide +kernel
theorem ef_6 (m : MethodId) (x0 : Int32) (x1 : Int32) : entryFrame m #[(.int x0), (.int x1)] 2 = mkF m 0 #[vi x0, vi x1] [] := by first | (simp [entryFrame, mkF, argsToLocals, Value.category]; done) | rfl
def f6 (p1 : Int32) (p2 : Int32) : Int32 := (if p1 < p2 then p2 else p1)
def Q6 (Z : State) (p1 : Int32) (p2 : Int32) (h0 : Heap) (n0 : Nat) (v : Option Value) (h : Heap) (L : List Loc) : Prop := v = some (.int (f6 p1 p2)) ∧ Fr n0 L ∧ h = h0
set_option maxRecDepth 65536 in
set_option maxHeartbeats 40000000 in
theorem rm6 (l : Launch) (Z : State) (a0 : Array Value) (hw : ∀ d ∈ tables_1, d.before a0 Z = true) (ws : List Jvm.Cond) (p1 : Int32) (p2 : Int32) (h0 : Heap) (n0 : Nat) (Z0 : n0 ≤ h0.size) :
    MetFree l y_2 (head1 (Jvm.Cond.code y_2 jdk_29_method_65_code 2 (some .int) :: ws) ({ frames := 0, cells := 0, slots := 0, locals := 0 } : Room)) (fun a U => a = #[(.int p1), (.int p2)] ∧ Z.Warmed39 U.vm ∧ U.heap = h0) (fun _ _ _ _ _ => True) (fun _ U o U' => ∃ v L, o = .returned v ∧ Q6 Z p1 p2 h0 n0 v U'.heap L ∧ FrameEnd U o U' L ({ frames := 0, cells := 0, slots := 0, locals := 0 } : Room).cells ({ frames := 0, cells := 0, slots := 0, locals := 0 } : Room).slots) := by
  refine MetFree.of_bodySF (Jvm.Free.JP.mathPlain rfl (by decide +kernel)) hisR ?_
  intro p e s m args below meth c s₁ Bd hml0 hP hK
  obtain ⟨rfl, hZ, hh⟩ := hP
  have hx := Bd.exec
  have hby := Bd.bytes
  have hml : c.maxLocals = 2 := hml0
  have hown : s.vm.findClass "java/lang/Math" = some m.cls := findClass_of_methodNamed Bd.named
  have hnm := (name_of_methodNamed Bd.named Bd.method).1
  have X0 : Stand p l e ({ frames := 0, cells := 0, slots := 0, locals := 0 } : Room) s m #[(.int p1), (.int p2)] below meth c s₁ [] 0 0 := Stand.of_body Bd
  have e0 : s₁.heap = h0 := by rw [← hh, Bd.state]; rfl
  have N0 := Fr.nil n0
  obtain ⟨F0, hF0⟩ : ∃ F : JFrame, F = entryFrame m #[(.int p1), (.int p2)] 2 := ⟨_, rfl⟩
  have pre0 : ∀ t, Steps p.tables e below (s₁.setTop F0) t → Steps p.tables e below (s₁.setTop (entryFrame m #[(.int p1), (.int p2)] 2)) t := fun t k => hF0 ▸ k
  have go0 : Go p e below s₁ F0 s₁ (mkF m 0 #[vi p1, vi p2] []) := fun t k => castTop (hF0.trans (ef_6 m p1 p2)) k
  have go1 : Go p e below s₁ F0 s₁ (mkF m 2 #[vi p1, vi p2] [(.int p2), (.int p1)]) := by
    intro t_ k_
    refine go0 t_ ?_
    refine o_iloadN X0 hx (hb hby d6_0) rfl ?_
    refine o_iloadN X0 hx (hb hby d6_1) rfl ?_
    exact k_
  by_cases hc2_2 : p1 < p2
  · skip
    have go3 : Go p e below s₁ F0 s₁ (mkF m 10 #[vi p1, vi p2] [(.int p2)]) := by
      intro t_ k_
      refine go1 t_ ?_
      refine o_icmpYes X0 hx (hb hby d6_2) (pc' := 9) rfl (by decide) (tlt hc2_2).1 ?_
      refine o_iloadN X0 hx (hb hby d6_9) rfl ?_
      exact k_
    obtain ⟨fs, hr, hrun, hended, hW, hsame⟩ := X0.leave (v := some (.int p2)) (fun h => by rw [Bd.returns] at h; cases h)
    refine ⟨_, _, pre0 _ (go3 _ ?_), hrun, hended, _, _, rfl, ?_, ⟨_, rfl⟩, hW, hsame.mono (by decide) (by decide)⟩
    · skip
      exact retI X0 hx Bd.returns (hb hby d6_10) hr
    · show Q6 Z p1 p2 h0 n0 _ s₁.heap _
      rw [e0]
      exact ⟨(congrArg (fun z => some (Value.int z)) (show p2 = f6 p1 p2 from by unfold f6; rw [if_pos hc2_2])), N0, rfl⟩
  · skip
    have go4 : Go p e below s₁ F0 s₁ (mkF m 10 #[vi p1, vi p2] [(.int p1)]) := by
      intro t_ k_
      refine go1 t_ ?_
      refine o_icmpNo X0 hx (hb hby d6_2) (flt hc2_2).1 ?_
      refine o_iloadN X0 hx (hb hby d6_5) rfl ?_
      refine o_goto X0 hx (hb hby d6_6) (pc' := 10) rfl (by decide) ?_
      exact k_
    obtain ⟨fs, hr, hrun, hended, hW, hsame⟩ := X0.leave (v := some (.int p1)) (fun h => by rw [Bd.returns] at h; cases h)
    refine ⟨_, _, pre0 _ (go4 _ ?_), hrun, hended, _, _, rfl, ?_, ⟨_, rfl⟩, hW, hsame.mono (by decide) (by decide)⟩
    · skip
      exact retI X0 hx Bd.returns (hb hby d6_10) hr
    · show Q6 Z p1 p2 h0 n0 _ s₁.heap _
      rw [e0]
      exact ⟨(congrArg (fun z => some (Value.int z)) (show p1 = f6 p1 p2 from by unfold f6; rw [if_neg hc2_2])), N0, rfl⟩

def dt15 : List (Nat × Instr × Nat) := [(0, .iconst 0, 1), (1, .istore 4, 2), (3, .iload_n 1, 1), (4, .istore 5, 2), (6, .iload 5, 2), (8, .iconst 1, 1), (9, .if_icmp .le 43, 3), (12, .iload 5, 2), (14, .iconst 1, 1), (15, .iushr, 1), (16, .istore 6, 2), (18, .aload_n 0, 1), (19, .iload 4, 2), (21, .iload 6, 2), (23, .iadd, 1), (24, .laload, 1), (25, .lload_n 2, 1), (26, .lcmp, 1), (27, .ifCond .gt 11, 3), (30, .iload 4, 2), (32, .iload 6, 2), (34, .iadd, 1), (35, .goto 5, 3), (38, .iload 4, 2), (40, .istore 4, 2), (42, .iload 5, 2), (44, .iload 6, 2), (46, .isub, 1), (47, .istore 5, 2), (49, .goto (-43), 3), (52, .iload 4, 2), (54, .ireturn, 1)]
theorem dk15 : ∀ x ∈ dt15, decode prog_99_method_36_code x.1 = .ok x.2 := by decide +kernel
theorem pn_15 : plainName "com/example/slackline/slackline/replay/Steps" = true := by first | (simp [plainName, overriddenIn]; done) | decide +kernel
theorem ef_15 (m : MethodId) (x0 : Addr) (x1 : Int32) (x2 : Int64) : entryFrame m #[(.ref x0), (.int x1), (.long x2)] 7 = mkF m 0 #[vr x0, vi x1, vj x2, .second, .unset, .unset, .unset] [] := by first | (simp [entryFrame, mkF, argsToLocals, Value.category]; done) | rfl
def Q15 (Z : State) (a0 : Array Value) (a1 : Addr) (p2 : Int32) (q3 : Int64) (h0 : Heap) (n0 : Nat) (v : Option Value) (h : Heap) (L : List Loc) : Prop := ∃ r : Int32, v = some (.int r) ∧ Fr n0 L ∧ h = h0 ∧ (0 ≤ r.toInt ∧ r.toInt < p2.toInt)
set_option maxRecDepth 65536 in
set_option maxHeartbeats 40000000 in
theorem rm15 (l : Launch) (Z : State) (a0 : Array Value) (hw : ∀ d ∈ tables_1, d.before a0 Z = true) (ws : List Jvm.Cond) (a1 : Addr) (p2 : Int32) (q3 : Int64) (h0 : Heap) (n0 : Nat) (Z0 : n0 ≤ h0.size) (L1 : LJ Z h0 a1 (4 : Int32)) (hd : p2 = 1 ∨ p2 = 2 ∨ p2 = 3 ∨ p2 = 4) :
    MetFree l y_3 (head1 (Jvm.Cond.code y_3 prog_99_method_36_code 7 (some .int) :: ws) ({ frames := 0, cells := 0, slots := 0, locals := 0 } : Room)) (fun a U => a = #[(.ref a1), (.int p2), (.long q3)] ∧ Z.Warmed39 U.vm ∧ U.heap = h0) (fun _ _ _ _ _ => True) (fun _ U o U' => ∃ v L, o = .returned v ∧ Q15 Z a0 a1 p2 q3 h0 n0 v U'.heap L ∧ FrameEnd U o U' L ({ frames := 0, cells := 0, slots := 0, locals := 0 } : Room).cells ({ frames := 0, cells := 0, slots := 0, locals := 0 } : Room).slots) := by
  refine MetFree.of_bodySF (plainFor_of_name pn_15) hisR ?_
  intro p e s m args below meth c s₁ Bd hml0 hP hK
  obtain ⟨rfl, hZ, hh⟩ := hP
  have hx := Bd.exec
  have hby := Bd.bytes
  have hml : c.maxLocals = 7 := hml0
  have hown : s.vm.findClass "com/example/slackline/slackline/replay/Steps" = some m.cls := findClass_of_methodNamed Bd.named
  have hnm := (name_of_methodNamed Bd.named Bd.method).1
  have X0 : Stand p l e ({ frames := 0, cells := 0, slots := 0, locals := 0 } : Room) s m #[(.ref a1), (.int p2), (.long q3)] below meth c s₁ [] 0 0 := Stand.of_body Bd
  have e0 : s₁.heap = h0 := by rw [← hh, Bd.state]; rfl
  have N0 := Fr.nil n0
  have H : ∀ (k : Nat) {i : Nat} {r : Instr × Nat}, dt15[k]? = some (i, r) → decode c.code i = .ok r := fun _ i r q => hb hby (dk15 (i, r) (List.mem_of_getElem? q))
  obtain ⟨F0, hF0⟩ : ∃ F : JFrame, F = entryFrame m #[(.ref a1), (.int p2), (.long q3)] 7 := ⟨_, rfl⟩
  have pre0 : ∀ t, Steps p.tables e below (s₁.setTop F0) t → Steps p.tables e below (s₁.setTop (entryFrame m #[(.ref a1), (.int p2), (.long q3)] 7)) t := fun t k => hF0 ▸ k
  have go0 : Go p e below s₁ F0 s₁ (mkF m 0 #[vr a1, vi p2, vj q3, .second, .unset, .unset, .unset] []) := fun t k => castTop (hF0.trans (ef_15 m a1 p2 q3)) k
  have hcs1 : p2 = 1 ∨ p2 = 2 ∨ p2 = 3 ∨ p2 = 4 := hd
  rcases hcs1 with hcs1 | hcs1 | hcs1 | hcs1
  ·have go2 : Go p e below s₁ F0 s₁ (mkF m 0 #[vr a1, vi 1, vj q3, .second, .unset, .unset, .unset] []) := by rw [hcs1] at go0; exact go0
   have go3 := (s_iload (s_icmpYes (s_iconst (s_iload (s_istore (s_iloadN (s_istore (s_iconst go2 X0 hx (H 0 rfl) (v := 0) rfl) X0 hx (H 1 rfl) (L' := #[vr a1, vi 1, vj q3, .second, vi 0, .unset, .unset]) rfl) X0 hx (H 2 rfl) rfl) X0 hx (H 3 rfl) (L' := #[vr a1, vi 1, vj q3, .second, vi 0, vi 1, .unset]) rfl) X0 hx (H 4 rfl) rfl) X0 hx (H 5 rfl) (v := 1) rfl) X0 hx (H 6 rfl) (pc' := 52) rfl (by decide) (flt (by decide : ¬ ((1 : Int32) < 1))).2.2.2) X0 hx (H 30 rfl) rfl)
   refine own_fI (Q := Q15 Z a0 a1 p2 q3 h0 n0) Bd.notSynchronized hx Bd.returns pre0 X0 go3 (H 31 rfl) e0 (by decide) (by decide) ?_
   exact ⟨(0 : Int32), rfl, N0, rfl, (by rw [hcs1]; decide)⟩
  ·have go4 : Go p e below s₁ F0 s₁ (mkF m 0 #[vr a1, vi 2, vj q3, .second, .unset, .unset, .unset] []) := by rw [hcs1] at go0; exact go0
   have go5 := (s_iaddE (s_iload (s_iload (s_aloadN (s_istore (s_iushrE (s_iconst (s_iload (s_icmpNo (s_iconst (s_iload (s_istore (s_iloadN (s_istore (s_iconst go4 X0 hx (H 0 rfl) (v := 0) rfl) X0 hx (H 1 rfl) (L' := #[vr a1, vi 2, vj q3, .second, vi 0, .unset, .unset]) rfl) X0 hx (H 2 rfl) rfl) X0 hx (H 3 rfl) (L' := #[vr a1, vi 2, vj q3, .second, vi 0, vi 2, .unset]) rfl) X0 hx (H 4 rfl) rfl) X0 hx (H 5 rfl) (v := 1) rfl) X0 hx (H 6 rfl) (tlt (by decide : (1 : Int32) < 2)).2.2.2) X0 hx (H 7 rfl) rfl) X0 hx (H 8 rfl) (v := 1) rfl) X0 hx (H 9 rfl) (v := 1) rfl) X0 hx (H 10 rfl) (L' := #[vr a1, vi 2, vj q3, .second, vi 0, vi 2, vi 1]) rfl) X0 hx (H 11 rfl) rfl rfl) X0 hx (H 12 rfl) rfl) X0 hx (H 13 rfl) rfl) X0 hx (H 14 rfl) (v := 1) rfl)
   obtain ⟨x6, go6⟩ := lJ go5 X0 hx hZ e0 L1 ⟨by decide, by decide⟩ (H 15 rfl)
   have go7 := (s_lcmp (s_lloadN go6 X0 hx (H 16 rfl) rfl) X0 hx (H 17 rfl))
   by_cases hc27_8 : q3 < x6
   ·have go9 := (s_iload (s_icmpYes (s_iconst (s_iload (s_goto (s_istore (s_isubE (s_iload (s_iload (s_istore (s_iload (s_ifYes go7 X0 hx (H 18 rfl) (pc' := 38) rfl (by decide) ((if0 _ _).trans (tlt ((lw_gt _ _).mpr hc27_8)).2.2.1)) X0 hx (H 23 rfl) rfl) X0 hx (H 24 rfl) (L' := #[vr a1, vi 2, vj q3, .second, vi 0, vi 2, vi 1]) rfl) X0 hx (H 25 rfl) rfl) X0 hx (H 26 rfl) rfl) X0 hx (H 27 rfl) (v := 1) rfl) X0 hx (H 28 rfl) (L' := #[vr a1, vi 2, vj q3, .second, vi 0, vi 1, vi 1]) rfl) X0 hx (H 29 rfl) (pc' := 6) rfl (by decide)) X0 hx (H 4 rfl) rfl) X0 hx (H 5 rfl) (v := 1) rfl) X0 hx (H 6 rfl) (pc' := 52) rfl (by decide) (flt (by decide : ¬ ((1 : Int32) < 1))).2.2.2) X0 hx (H 30 rfl) rfl)
    refine own_fI (Q := Q15 Z a0 a1 p2 q3 h0 n0) Bd.notSynchronized hx Bd.returns pre0 X0 go9 (H 31 rfl) e0 (by decide) (by decide) ?_
    exact ⟨(0 : Int32), rfl, N0, rfl, (by rw [hcs1]; decide)⟩
   have go10 := (s_iload (s_icmpYes (s_iconst (s_iload (s_goto (s_istore (s_isubE (s_iload (s_iload (s_istore (s_goto (s_iaddE (s_iload (s_iload (s_ifNo go7 X0 hx (H 18 rfl) ((if0 _ _).trans (flt (fun q => hc27_8 ((lw_gt _ _).mp q))).2.2.1)) X0 hx (H 19 rfl) rfl) X0 hx (H 20 rfl) rfl) X0 hx (H 21 rfl) (v := 1) rfl) X0 hx (H 22 rfl) (pc' := 40) rfl (by decide)) X0 hx (H 24 rfl) (L' := #[vr a1, vi 2, vj q3, .second, vi 1, vi 2, vi 1]) rfl) X0 hx (H 25 rfl) rfl) X0 hx (H 26 rfl) rfl) X0 hx (H 27 rfl) (v := 1) rfl) X0 hx (H 28 rfl) (L' := #[vr a1, vi 2, vj q3, .second, vi 1, vi 1, vi 1]) rfl) X0 hx (H 29 rfl) (pc' := 6) rfl (by decide)) X0 hx (H 4 rfl) rfl) X0 hx (H 5 rfl) (v := 1) rfl) X0 hx (H 6 rfl) (pc' := 52) rfl (by decide) (flt (by decide : ¬ ((1 : Int32) < 1))).2.2.2) X0 hx (H 30 rfl) rfl)
   refine own_fI (Q := Q15 Z a0 a1 p2 q3 h0 n0) Bd.notSynchronized hx Bd.returns pre0 X0 go10 (H 31 rfl) e0 (by decide) (by decide) ?_
   exact ⟨(1 : Int32), rfl, N0, rfl, (by rw [hcs1]; decide)⟩
  ·have go11 : Go p e below s₁ F0 s₁ (mkF m 0 #[vr a1, vi 3, vj q3, .second, .unset, .unset, .unset] []) := by rw [hcs1] at go0; exact go0
   have go12 := (s_iaddE (s_iload (s_iload (s_aloadN (s_istore (s_iushrE (s_iconst (s_iload (s_icmpNo (s_iconst (s_iload (s_istore (s_iloadN (s_istore (s_iconst go11 X0 hx (H 0 rfl) (v := 0) rfl) X0 hx (H 1 rfl) (L' := #[vr a1, vi 3, vj q3, .second, vi 0, .unset, .unset]) rfl) X0 hx (H 2 rfl) rfl) X0 hx (H 3 rfl) (L' := #[vr a1, vi 3, vj q3, .second, vi 0, vi 3, .unset]) rfl) X0 hx (H 4 rfl) rfl) X0 hx (H 5 rfl) (v := 1) rfl) X0 hx (H 6 rfl) (tlt (by decide : (1 : Int32) < 3)).2.2.2) X0 hx (H 7 rfl) rfl) X0 hx (H 8 rfl) (v := 1) rfl) X0 hx (H 9 rfl) (v := 1) rfl) X0 hx (H 10 rfl) (L' := #[vr a1, vi 3, vj q3, .second, vi 0, vi 3, vi 1]) rfl) X0 hx (H 11 rfl) rfl rfl) X0 hx (H 12 rfl) rfl) X0 hx (H 13 rfl) rfl) X0 hx (H 14 rfl) (v := 1) rfl)
   obtain ⟨x13, go13⟩ := lJ go12 X0 hx hZ e0 L1 ⟨by decide, by decide⟩ (H 15 rfl)
   have go14 := (s_lcmp (s_lloadN go13 X0 hx (H 16 rfl) rfl) X0 hx (H 17 rfl))
   by_cases hc27_15 : q3 < x13
   ·have go16 := (s_iaddE (s_iload (s_iload (s_aloadN (s_istore (s_iushrE (s_iconst (s_iload (s_icmpNo (s_iconst (s_iload (s_goto (s_istore (s_isubE (s_iload (s_iload (s_istore (s_iload (s_ifYes go14 X0 hx (H 18 rfl) (pc' := 38) rfl (by decide) ((if0 _ _).trans (tlt ((lw_gt _ _).mpr hc27_15)).2.2.1)) X0 hx (H 23 rfl) rfl) X0 hx (H 24 rfl) (L' := #[vr a1, vi 3, vj q3, .second, vi 0, vi 3, vi 1]) rfl) X0 hx (H 25 rfl) rfl) X0 hx (H 26 rfl) rfl) X0 hx (H 27 rfl) (v := 2) rfl) X0 hx (H 28 rfl) (L' := #[vr a1, vi 3, vj q3, .second, vi 0, vi 2, vi 1]) rfl) X0 hx (H 29 rfl) (pc' := 6) rfl (by decide)) X0 hx (H 4 rfl) rfl) X0 hx (H 5 rfl) (v := 1) rfl) X0 hx (H 6 rfl) (tlt (by decide : (1 : Int32) < 2)).2.2.2) X0 hx (H 7 rfl) rfl) X0 hx (H 8 rfl) (v := 1) rfl) X0 hx (H 9 rfl) (v := 1) rfl) X0 hx (H 10 rfl) (L' := #[vr a1, vi 3, vj q3, .second, vi 0, vi 2, vi 1]) rfl) X0 hx (H 11 rfl) rfl rfl) X0 hx (H 12 rfl) rfl) X0 hx (H 13 rfl) rfl) X0 hx (H 14 rfl) (v := 1) rfl)
    obtain ⟨x17, go17⟩ := lJ go16 X0 hx hZ e0 L1 ⟨by decide, by decide⟩ (H 15 rfl)
    have go18 := (s_lcmp (s_lloadN go17 X0 hx (H 16 rfl) rfl) X0 hx (H 17 rfl))
    by_cases hc27_19 : q3 < x17
    ·have go20 := (s_iload (s_icmpYes (s_iconst (s_iload (s_goto (s_istore (s_isubE (s_iload (s_iload (s_istore (s_iload (s_ifYes go18 X0 hx (H 18 rfl) (pc' := 38) rfl (by decide) ((if0 _ _).trans (tlt ((lw_gt _ _).mpr hc27_19)).2.2.1)) X0 hx (H 23 rfl) rfl) X0 hx (H 24 rfl) (L' := #[vr a1, vi 3, vj q3, .second, vi 0, vi 2, vi 1]) rfl) X0 hx (H 25 rfl) rfl) X0 hx (H 26 rfl) rfl) X0 hx (H 27 rfl) (v := 1) rfl) X0 hx (H 28 rfl) (L' := #[vr a1, vi 3, vj q3, .second, vi 0, vi 1, vi 1]) rfl) X0 hx (H 29 rfl) (pc' := 6) rfl (by decide)) X0 hx (H 4 rfl) rfl) X0 hx (H 5 rfl) (v := 1) rfl) X0 hx (H 6 rfl) (pc' := 52) rfl (by decide) (flt (by decide : ¬ ((1 : Int32) < 1))).2.2.2) X0 hx (H 30 rfl) rfl)
     refine own_fI (Q := Q15 Z a0 a1 p2 q3 h0 n0) Bd.notSynchronized hx Bd.returns pre0 X0 go20 (H 31 rfl) e0 (by decide) (by decide) ?_
     exact ⟨(0 : Int32), rfl, N0, rfl, (by rw [hcs1]; decide)⟩
    have go21 := (s_iload (s_icmpYes (s_iconst (s_iload (s_goto (s_istore (s_isubE (s_iload (s_iload (s_istore (s_goto (s_iaddE (s_iload (s_iload (s_ifNo go18 X0 hx (H 18 rfl) ((if0 _ _).trans (flt (fun q => hc27_19 ((lw_gt _ _).mp q))).2.2.1)) X0 hx (H 19 rfl) rfl) X0 hx (H 20 rfl) rfl) X0 hx (H 21 rfl) (v := 1) rfl) X0 hx (H 22 rfl) (pc' := 40) rfl (by decide)) X0 hx (H 24 rfl) (L' := #[vr a1, vi 3, vj q3, .second, vi 1, vi 2, vi 1]) rfl) X0 hx (H 25 rfl) rfl) X0 hx (H 26 rfl) rfl) X0 hx (H 27 rfl) (v := 1) rfl) X0 hx (H 28 rfl) (L' := #[vr a1, vi 3, vj q3, .second, vi 1, vi 1, vi 1]) rfl) X0 hx (H 29 rfl) (pc' := 6) rfl (by decide)) X0 hx (H 4 rfl) rfl) X0 hx (H 5 rfl) (v := 1) rfl) X0 hx (H 6 rfl) (pc' := 52) rfl (by decide) (flt (by decide : ¬ ((1 : Int32) < 1))).2.2.2) X0 hx (H 30 rfl) rfl)
    refine own_fI (Q := Q15 Z a0 a1 p2 q3 h0 n0) Bd.notSynchronized hx Bd.returns pre0 X0 go21 (H 31 rfl) e0 (by decide) (by decide) ?_
    exact ⟨(1 : Int32), rfl, N0, rfl, (by rw [hcs1]; decide)⟩
   have go22 := (s_iaddE (s_iload (s_iload (s_aloadN (s_istore (s_iushrE (s_iconst (s_iload (s_icmpNo (s_iconst (s_iload (s_goto (s_istore (s_isubE (s_iload (s_iload (s_istore (s_goto (s_iaddE (s_iload (s_iload (s_ifNo go14 X0 hx (H 18 rfl) ((if0 _ _).trans (flt (fun q => hc27_15 ((lw_gt _ _).mp q))).2.2.1)) X0 hx (H 19 rfl) rfl) X0 hx (H 20 rfl) rfl) X0 hx (H 21 rfl) (v := 1) rfl) X0 hx (H 22 rfl) (pc' := 40) rfl (by decide)) X0 hx (H 24 rfl) (L' := #[vr a1, vi 3, vj q3, .second, vi 1, vi 3, vi 1]) rfl) X0 hx (H 25 rfl) rfl) X0 hx (H 26 rfl) rfl) X0 hx (H 27 rfl) (v := 2) rfl) X0 hx (H 28 rfl) (L' := #[vr a1, vi 3, vj q3, .second, vi 1, vi 2, vi 1]) rfl) X0 hx (H 29 rfl) (pc' := 6) rfl (by decide)) X0 hx (H 4 rfl) rfl) X0 hx (H 5 rfl) (v := 1) rfl) X0 hx (H 6 rfl) (tlt (by decide : (1 : Int32) < 2)).2.2.2) X0 hx (H 7 rfl) rfl) X0 hx (H 8 rfl) (v := 1) rfl) X0 hx (H 9 rfl) (v := 1) rfl) X0 hx (H 10 rfl) (L' := #[vr a1, vi 3, vj q3, .second, vi 1, vi 2, vi 1]) rfl) X0 hx (H 11 rfl) rfl rfl) X0 hx (H 12 rfl) rfl) X0 hx (H 13 rfl) rfl) X0 hx (H 14 rfl) (v := 2) rfl)
   obtain ⟨x23, go23⟩ := lJ go22 X0 hx hZ e0 L1 ⟨by decide, by decide⟩ (H 15 rfl)
   have go24 := (s_lcmp (s_lloadN go23 X0 hx (H 16 rfl) rfl) X0 hx (H 17 rfl))
   by_cases hc27_25 : q3 < x23
   ·have go26 := (s_iload (s_icmpYes (s_iconst (s_iload (s_goto (s_istore (s_isubE (s_iload (s_iload (s_istore (s_iload (s_ifYes go24 X0 hx (H 18 rfl) (pc' := 38) rfl (by decide) ((if0 _ _).trans (tlt ((lw_gt _ _).mpr hc27_25)).2.2.1)) X0 hx (H 23 rfl) rfl) X0 hx (H 24 rfl) (L' := #[vr a1, vi 3, vj q3, .second, vi 1, vi 2, vi 1]) rfl) X0 hx (H 25 rfl) rfl) X0 hx (H 26 rfl) rfl) X0 hx (H 27 rfl) (v := 1) rfl) X0 hx (H 28 rfl) (L' := #[vr a1, vi 3, vj q3, .second, vi 1, vi 1, vi 1]) rfl) X0 hx (H 29 rfl) (pc' := 6) rfl (by decide)) X0 hx (H 4 rfl) rfl) X0 hx (H 5 rfl) (v := 1) rfl) X0 hx (H 6 rfl) (pc' := 52) rfl (by decide) (flt (by decide : ¬ ((1 : Int32) < 1))).2.2.2) X0 hx (H 30 rfl) rfl)
    refine own_fI (Q := Q15 Z a0 a1 p2 q3 h0 n0) Bd.notSynchronized hx Bd.returns pre0 X0 go26 (H 31 rfl) e0 (by decide) (by decide) ?_
    exact ⟨(1 : Int32), rfl, N0, rfl, (by rw [hcs1]; decide)⟩
   have go27 := (s_iload (s_icmpYes (s_iconst (s_iload (s_goto (s_istore (s_isubE (s_iload (s_iload (s_istore (s_goto (s_iaddE (s_iload (s_iload (s_ifNo go24 X0 hx (H 18 rfl) ((if0 _ _).trans (flt (fun q => hc27_25 ((lw_gt _ _).mp q))).2.2.1)) X0 hx (H 19 rfl) rfl) X0 hx (H 20 rfl) rfl) X0 hx (H 21 rfl) (v := 2) rfl) X0 hx (H 22 rfl) (pc' := 40) rfl (by decide)) X0 hx (H 24 rfl) (L' := #[vr a1, vi 3, vj q3, .second, vi 2, vi 2, vi 1]) rfl) X0 hx (H 25 rfl) rfl) X0 hx (H 26 rfl) rfl) X0 hx (H 27 rfl) (v := 1) rfl) X0 hx (H 28 rfl) (L' := #[vr a1, vi 3, vj q3, .second, vi 2, vi 1, vi 1]) rfl) X0 hx (H 29 rfl) (pc' := 6) rfl (by decide)) X0 hx (H 4 rfl) rfl) X0 hx (H 5 rfl) (v := 1) rfl) X0 hx (H 6 rfl) (pc' := 52) rfl (by decide) (flt (by decide : ¬ ((1 : Int32) < 1))).2.2.2) X0 hx (H 30 rfl) rfl)
   refine own_fI (Q := Q15 Z a0 a1 p2 q3 h0 n0) Bd.notSynchronized hx Bd.returns pre0 X0 go27 (H 31 rfl) e0 (by decide) (by decide) ?_
   exact ⟨(2 : Int32), rfl, N0, rfl, (by rw [hcs1]; decide)⟩
  have go28 : Go p e below s₁ F0 s₁ (mkF m 0 #[vr a1, vi 4, vj q3, .second, .unset, .unset, .unset] []) := by rw [hcs1] at go0; exact go0
  have go29 := (s_iaddE (s_iload (s_iload (s_aloadN (s_istore (s_iushrE (s_iconst (s_iload (s_icmpNo (s_iconst (s_iload (s_istore (s_iloadN (s_istore (s_iconst go28 X0 hx (H 0 rfl) (v := 0) rfl) X0 hx (H 1 rfl) (L' := #[vr a1, vi 4, vj q3, .second, vi 0, .unset, .unset]) rfl) X0 hx (H 2 rfl) rfl) X0 hx (H 3 rfl) (L' := #[vr a1, vi 4, vj q3, .second, vi 0, vi 4, .unset]) rfl) X0 hx (H 4 rfl) rfl) X0 hx (H 5 rfl) (v := 1) rfl) X0 hx (H 6 rfl) (tlt (by decide : (1 : Int32) < 4)).2.2.2) X0 hx (H 7 rfl) rfl) X0 hx (H 8 rfl) (v := 1) rfl) X0 hx (H 9 rfl) (v := 2) rfl) X0 hx (H 10 rfl) (L' := #[vr a1, vi 4, vj q3, .second, vi 0, vi 4, vi 2]) rfl) X0 hx (H 11 rfl) rfl rfl) X0 hx (H 12 rfl) rfl) X0 hx (H 13 rfl) rfl) X0 hx (H 14 rfl) (v := 2) rfl)
  obtain ⟨x30, go30⟩ := lJ go29 X0 hx hZ e0 L1 ⟨by decide, by decide⟩ (H 15 rfl)
  have go31 := (s_lcmp (s_lloadN go30 X0 hx (H 16 rfl) rfl) X0 hx (H 17 rfl))
  by_cases hc27_32 : q3 < x30
  ·have go33 := (s_iaddE (s_iload (s_iload (s_aloadN (s_istore (s_iushrE (s_iconst (s_iload (s_icmpNo (s_iconst (s_iload (s_goto (s_istore (s_isubE (s_iload (s_iload (s_istore (s_iload (s_ifYes go31 X0 hx (H 18 rfl) (pc' := 38) rfl (by decide) ((if0 _ _).trans (tlt ((lw_gt _ _).mpr hc27_32)).2.2.1)) X0 hx (H 23 rfl) rfl) X0 hx (H 24 rfl) (L' := #[vr a1, vi 4, vj q3, .second, vi 0, vi 4, vi 2]) rfl) X0 hx (H 25 rfl) rfl) X0 hx (H 26 rfl) rfl) X0 hx (H 27 rfl) (v := 2) rfl) X0 hx (H 28 rfl) (L' := #[vr a1, vi 4, vj q3, .second, vi 0, vi 2, vi 2]) rfl) X0 hx (H 29 rfl) (pc' := 6) rfl (by decide)) X0 hx (H 4 rfl) rfl) X0 hx (H 5 rfl) (v := 1) rfl) X0 hx (H 6 rfl) (tlt (by decide : (1 : Int32) < 2)).2.2.2) X0 hx (H 7 rfl) rfl) X0 hx (H 8 rfl) (v := 1) rfl) X0 hx (H 9 rfl) (v := 1) rfl) X0 hx (H 10 rfl) (L' := #[vr a1, vi 4, vj q3, .second, vi 0, vi 2, vi 1]) rfl) X0 hx (H 11 rfl) rfl rfl) X0 hx (H 12 rfl) rfl) X0 hx (H 13 rfl) rfl) X0 hx (H 14 rfl) (v := 1) rfl)
   obtain ⟨x34, go34⟩ := lJ go33 X0 hx hZ e0 L1 ⟨by decide, by decide⟩ (H 15 rfl)
   have go35 := (s_lcmp (s_lloadN go34 X0 hx (H 16 rfl) rfl) X0 hx (H 17 rfl))
   by_cases hc27_36 : q3 < x34
   ·have go37 := (s_iload (s_icmpYes (s_iconst (s_iload (s_goto (s_istore (s_isubE (s_iload (s_iload (s_istore (s_iload (s_ifYes go35 X0 hx (H 18 rfl) (pc' := 38) rfl (by decide) ((if0 _ _).trans (tlt ((lw_gt _ _).mpr hc27_36)).2.2.1)) X0 hx (H 23 rfl) rfl) X0 hx (H 24 rfl) (L' := #[vr a1, vi 4, vj q3, .second, vi 0, vi 2, vi 1]) rfl) X0 hx (H 25 rfl) rfl) X0 hx (H 26 rfl) rfl) X0 hx (H 27 rfl) (v := 1) rfl) X0 hx (H 28 rfl) (L' := #[vr a1, vi 4, vj q3, .second, vi 0, vi 1, vi 1]) rfl) X0 hx (H 29 rfl) (pc' := 6) rfl (by decide)) X0 hx (H 4 rfl) rfl) X0 hx (H 5 rfl) (v := 1) rfl) X0 hx (H 6 rfl) (pc' := 52) rfl (by decide) (flt (by decide : ¬ ((1 : Int32) < 1))).2.2.2) X0 hx (H 30 rfl) rfl)
    refine own_fI (Q := Q15 Z a0 a1 p2 q3 h0 n0) Bd.notSynchronized hx Bd.returns pre0 X0 go37 (H 31 rfl) e0 (by decide) (by decide) ?_
    exact ⟨(0 : Int32), rfl, N0, rfl, (by rw [hcs1]; decide)⟩
   have go38 := (s_iload (s_icmpYes (s_iconst (s_iload (s_goto (s_istore (s_isubE (s_iload (s_iload (s_istore (s_goto (s_iaddE (s_iload (s_iload (s_ifNo go35 X0 hx (H 18 rfl) ((if0 _ _).trans (flt (fun q => hc27_36 ((lw_gt _ _).mp q))).2.2.1)) X0 hx (H 19 rfl) rfl) X0 hx (H 20 rfl) rfl) X0 hx (H 21 rfl) (v := 1) rfl) X0 hx (H 22 rfl) (pc' := 40) rfl (by decide)) X0 hx (H 24 rfl) (L' := #[vr a1, vi 4, vj q3, .second, vi 1, vi 2, vi 1]) rfl) X0 hx (H 25 rfl) rfl) X0 hx (H 26 rfl) rfl) X0 hx (H 27 rfl) (v := 1) rfl) X0 hx (H 28 rfl) (L' := #[vr a1, vi 4, vj q3, .second, vi 1, vi 1, vi 1]) rfl) X0 hx (H 29 rfl) (pc' := 6) rfl (by decide)) X0 hx (H 4 rfl) rfl) X0 hx (H 5 rfl) (v := 1) rfl) X0 hx (H 6 rfl) (pc' := 52) rfl (by decide) (flt (by decide : ¬ ((1 : Int32) < 1))).2.2.2) X0 hx (H 30 rfl) rfl)
   refine own_fI (Q := Q15 Z a0 a1 p2 q3 h0 n0) Bd.notSynchronized hx Bd.returns pre0 X0 go38 (H 31 rfl) e0 (by decide) (by decide) ?_
   exact ⟨(1 : Int32), rfl, N0, rfl, (by rw [hcs1]; decide)⟩
  have go39 := (s_iaddE (s_iload (s_iload (s_aloadN (s_istore (s_iushrE (s_iconst (s_iload (s_icmpNo (s_iconst (s_iload (s_goto (s_istore (s_isubE (s_iload (s_iload (s_istore (s_goto (s_iaddE (s_iload (s_iload (s_ifNo go31 X0 hx (H 18 rfl) ((if0 _ _).trans (flt (fun q => hc27_32 ((lw_gt _ _).mp q))).2.2.1)) X0 hx (H 19 rfl) rfl) X0 hx (H 20 rfl) rfl) X0 hx (H 21 rfl) (v := 2) rfl) X0 hx (H 22 rfl) (pc' := 40) rfl (by decide)) X0 hx (H 24 rfl) (L' := #[vr a1, vi 4, vj q3, .second, vi 2, vi 4, vi 2]) rfl) X0 hx (H 25 rfl) rfl) X0 hx (H 26 rfl) rfl) X0 hx (H 27 rfl) (v := 2) rfl) X0 hx (H 28 rfl) (L' := #[vr a1, vi 4, vj q3, .second, vi 2, vi 2, vi 2]) rfl) X0 hx (H 29 rfl) (pc' := 6) rfl (by decide)) X0 hx (H 4 rfl) rfl) X0 hx (H 5 rfl) (v := 1) rfl) X0 hx (H 6 rfl) (tlt (by decide : (1 : Int32) < 2)).2.2.2) X0 hx (H 7 rfl) rfl) X0 hx (H 8 rfl) (v := 1) rfl) X0 hx (H 9 rfl) (v := 1) rfl) X0 hx (H 10 rfl) (L' := #[vr a1, vi 4, vj q3, .second, vi 2, vi 2, vi 1]) rfl) X0 hx (H 11 rfl) rfl rfl) X0 hx (H 12 rfl) rfl) X0 hx (H 13 rfl) rfl) X0 hx (H 14 rfl) (v := 3) rfl)
  obtain ⟨x40, go40⟩ := lJ go39 X0 hx hZ e0 L1 ⟨by decide, by decide⟩ (H 15 rfl)
  have go41 := (s_lcmp (s_lloadN go40 X0 hx (H 16 rfl) rfl) X0 hx (H 17 rfl))
  by_cases hc27_42 : q3 < x40
  ·have go43 := (s_iload (s_icmpYes (s_iconst (s_iload (s_goto (s_istore (s_isubE (s_iload (s_iload (s_istore (s_iload (s_ifYes go41 X0 hx (H 18 rfl) (pc' := 38) rfl (by decide) ((if0 _ _).trans (tlt ((lw_gt _ _).mpr hc27_42)).2.2.1)) X0 hx (H 23 rfl) rfl) X0 hx (H 24 rfl) (L' := #[vr a1, vi 4, vj q3, .second, vi 2, vi 2, vi 1]) rfl) X0 hx (H 25 rfl) rfl) X0 hx (H 26 rfl) rfl) X0 hx (H 27 rfl) (v := 1) rfl) X0 hx (H 28 rfl) (L' := #[vr a1, vi 4, vj q3, .second, vi 2, vi 1, vi 1]) rfl) X0 hx (H 29 rfl) (pc' := 6) rfl (by decide)) X0 hx (H 4 rfl) rfl) X0 hx (H 5 rfl) (v := 1) rfl) X0 hx (H 6 rfl) (pc' := 52) rfl (by decide) (flt (by decide : ¬ ((1 : Int32) < 1))).2.2.2) X0 hx (H 30 rfl) rfl)
   refine own_fI (Q := Q15 Z a0 a1 p2 q3 h0 n0) Bd.notSynchronized hx Bd.returns pre0 X0 go43 (H 31 rfl) e0 (by decide) (by decide) ?_
   exact ⟨(2 : Int32), rfl, N0, rfl, (by rw [hcs1]; decide)⟩
  have go44 := (s_iload (s_icmpYes (s_iconst (s_iload (s_goto (s_istore (s_isubE (s_iload (s_iload (s_istore (s_goto (s_iaddE (s_iload (s_iload (s_ifNo go41 X0 hx (H 18 rfl) ((if0 _ _).trans (flt (fun q => hc27_42 ((lw_gt _ _).mp q))).2.2.1)) X0 hx (H 19 rfl) rfl) X0 hx (H 20 rfl) rfl) X0 hx (H 21 rfl) (v := 3) rfl) X0 hx (H 22 rfl) (pc' := 40) rfl (by decide)) X0 hx (H 24 rfl) (L' := #[vr a1, vi 4, vj q3, .second, vi 3, vi 2, vi 1]) rfl) X0 hx (H 25 rfl) rfl) X0 hx (H 26 rfl) rfl) X0 hx (H 27 rfl) (v := 1) rfl) X0 hx (H 28 rfl) (L' := #[vr a1, vi 4, vj q3, .second, vi 3, vi 1, vi 1]) rfl) X0 hx (H 29 rfl) (pc' := 6) rfl (by decide)) X0 hx (H 4 rfl) rfl) X0 hx (H 5 rfl) (v := 1) rfl) X0 hx (H 6 rfl) (pc' := 52) rfl (by decide) (flt (by decide : ¬ ((1 : Int32) < 1))).2.2.2) X0 hx (H 30 rfl) rfl)
  refine own_fI (Q := Q15 Z a0 a1 p2 q3 h0 n0) Bd.notSynchronized hx Bd.returns pre0 X0 go44 (H 31 rfl) e0 (by decide) (by decide) ?_
  exact ⟨(3 : Int32), rfl, N0, rfl, (by rw [hcs1]; decide)⟩

def dt14 : List (Nat × Instr × Nat) := [(0, .aload_n 0, 1), (1, .getfield 111, 3), (4, .aload_n 0, 1), (5, .getfield 36, 3), (8, .lload_n 1, 1), (9, .invokestatic 214, 3), (12, .ireturn, 1)]
theorem dk14 : ∀ x ∈ dt14, decode prog_99_method_35_code x.1 = .ok x.2 := by decide +kernel
theorem pn_14 : plainName "com/example/slackline/slackline/replay/Steps" = true := by first | (simp [plainName, overriddenIn]; done) | decide +kernel
theorem pd14_0 : parseMethodDescriptor "([JIJ)I" = some ⟨[(.array .long), .int, .long], some .int⟩ := by decide +kernel
theorem ef_14 (m : MethodId) (x0 : Addr) (x1 : Int64) : entryFrame m #[(.ref x0), (.long x1)] 3 = mkF m 0 #[vr x0, vj x1, .second] [] := by first | (simp [entryFrame, mkF, argsToLocals, Value.category]; done) | rfl
def Q14 (Z : State) (a0 : Array Value) (a1 : Addr) (q2 : Int64) (t : Addr) (sz : Int32) (h0 : Heap) (n0 : Nat) (v : Option Value) (h : Heap) (L : List Loc) : Prop := ∃ r : Int32, v = some (.int r) ∧ Fr n0 L ∧ h = h0 ∧ (0 ≤ r.toInt ∧ r.toInt < sz.toInt)
set_option maxRecDepth 65536 in
set_option maxHeartbeats 40000000 in
theorem rm14 (l : Launch) (Z : State) (a0 : Array Value) (hw : ∀ d ∈ tables_1, d.before a0 Z = true) (ws : List Jvm.Cond) (a1 : Addr) (q2 : Int64) (t : Addr) (sz : Int32) (h0 : Heap) (n0 : Nat) (Z0 : n0 ≤ h0.size) (F1 : FE Z a0 h0 a1 nCh "time" "[J" (.ref t)) (L1 : LJ Z h0 t (4 : Int32)) (F2 : FE Z a0 h0 a1 nCh "size" "I" (.int sz)) (hs : 1 ≤ sz.toInt ∧ sz.toInt ≤ 4) :
    MetFree l y_4 (head1 (Jvm.Cond.code y_4 prog_99_method_35_code 3 (some .int) :: ws) ({ frames := 1, cells := 0, slots := 0, locals := 18 } : Room)) (fun a U => a = #[(.ref a1), (.long q2)] ∧ Z.Warmed39 U.vm ∧ U.heap = h0) (fun _ _ _ _ _ => True) (fun _ U o U' => ∃ v L, o = .returned v ∧ Q14 Z a0 a1 q2 t sz h0 n0 v U'.heap L ∧ FrameEnd U o U' L ({ frames := 1, cells := 0, slots := 0, locals := 18 } : Room).cells ({ frames := 1, cells := 0, slots := 0, locals := 18 } : Room).slots) := by
  refine MetFree.of_bodySF (plainFor_of_name pn_14) hisR ?_
  intro p e s m args below meth c s₁ Bd hml0 hP hK
  obtain ⟨rfl, hZ, hh⟩ := hP
  have hx := Bd.exec
  have hby := Bd.bytes
  have hml : c.maxLocals = 3 := hml0
  have hown : s.vm.findClass "com/example/slackline/slackline/replay/Steps" = some m.cls := findClass_of_methodNamed Bd.named
  have hnm := (name_of_methodNamed Bd.named Bd.method).1
  have X0 : Stand p l e ({ frames := 1, cells := 0, slots := 0, locals := 18 } : Room) s m #[(.ref a1), (.long q2)] below meth c s₁ [] 0 0 := Stand.of_body Bd
  have e0 : s₁.heap = h0 := by rw [← hh, Bd.state]; rfl
  have N0 := Fr.nil n0
  have H : ∀ (k : Nat) {i : Nat} {r : Instr × Nat}, dt14[k]? = some (i, r) → decode c.code i = .ok r := fun _ i r q => hb hby (dk14 (i, r) (List.mem_of_getElem? q))
  obtain ⟨F0, hF0⟩ : ∃ F : JFrame, F = entryFrame m #[(.ref a1), (.long q2)] 3 := ⟨_, rfl⟩
  have pre0 : ∀ t, Steps p.tables e below (s₁.setTop F0) t → Steps p.tables e below (s₁.setTop (entryFrame m #[(.ref a1), (.long q2)] 3)) t := fun t k => hF0 ▸ k
  have go0 : Go p e below s₁ F0 s₁ (mkF m 0 #[vr a1, vj q2, .second] []) := fun t k => castTop (hF0.trans (ef_14 m a1 q2)) k
  have go1 := (s_aloadN go0 X0 hx (H 0 rfl) rfl rfl)
  obtain ⟨T2, X2, e2, go2⟩ := gF go1 X0 hx hZ hown (own_w hw 173 rfl) e0 F1.2.1 (H 1 rfl)
  have go3 := (s_aloadN go2 X2 hx (H 2 rfl) rfl rfl)
  obtain ⟨T4, X4, e4, go4⟩ := gF go3 X2 hx hZ hown (own_w hw 112 rfl) e2 F2.2.1 (H 3 rfl)
  have go5 := (s_lloadN go4 X4 hx (H 4 rfl) rfl)
  obtain ⟨_, _, ⟨T6, L6, k6, n6⟩, -, X6, ⟨Lc6, hQ6, l6, y6, z6⟩, g6⟩ := c_s go5 (Jvm.LawKit.callS X4 hx (y := y_3) hown (mvT hZ (own_w hw 174 rfl)) (mvT hZ (own_w hw 175 rfl)) (mvT hZ (own_w hw 41 rfl)) (mvT hZ (own_w hw 176 rfl)) (by decide) (backOf (W := 0) (rm15 l Z a0 hw [] t sz q2 h0 n0 Z0 L1 (d4_of rfl hs)) hZ (own_w hw 176 rfl) (own_w hw 41 rfl) (by decide) (by decide)) (g := mkF m _ _ _) rfl (by rw [hml]; rfl) (argsL := [(.ref t), (.int sz), (.long q2)]) (rest := []) (lenOf pd14_0 rfl) rfl (by show 2 * 0 + _ ≤ _; exact Nat.le_of_eq rfl) (H 5 rfl) (fun _ _ => ⟨rfl, e4, (by decide : 0 + 0 ≤ _), (by decide : 0 + 0 ≤ _)⟩))
  dsimp only [Pt.U, Pt.locs, Pt.cells, Pt.slots] at X6 l6 y6 z6 g6 hQ6
  subst l6 y6 z6
  obtain ⟨r_6, rfl, Nq6, eh6, hr_6⟩ := hQ6
  have N6 := Fr.app N0 Nq6
  have go7 := cr g6
  refine own_fI (Q := Q14 Z a0 a1 q2 t sz h0 n0) Bd.notSynchronized hx Bd.returns pre0 X6 go7 (H 6 rfl) eh6 (by decide) (by decide) ?_
  exact ⟨r_6, rfl, N6, rfl, (by first | assumption | decide | omega)⟩

def dt22 : List (Nat × Instr × Nat) := [(0, .aload_n 0, 1), (1, .getfield 111, 3), (4, .iconst 0, 1), (5, .laload, 1), (6, .lload_n 1, 1), (7, .lcmp, 1), (8, .ifCond .ge 22, 3), (11, .aload_n 0, 1), (12, .getfield 111, 3), (15, .aload_n 0, 1), (16, .getfield 36, 3), (19, .lload_n 1, 1), (20, .lconst 1, 1), (21, .lsub, 1), (22, .invokestatic 214, 3), (25, .iconst 1, 1), (26, .iadd, 1), (27, .goto 4, 3), (30, .iconst 0, 1), (31, .ireturn, 1)]
theorem dk22 : ∀ x ∈ dt22, decode prog_99_method_21_code x.1 = .ok x.2 := by decide +kernel
theorem pn_22 : plainName "com/example/slackline/slackline/replay/Steps" = true := by first | (simp [plainName, overriddenIn]; done) | decide +kernel
theorem pd22_0 : parseMethodDescriptor "([JIJ)I" = some ⟨[(.array .long), .int, .long], some .int⟩ := by decide +kernel
theorem ef_22 (m : MethodId) (x0 : Addr) (x1 : Int64) : entryFrame m #[(.ref x0), (.long x1)] 3 = mkF m 0 #[vr x0, vj x1, .second] [] := by first | (simp [entryFrame, mkF, argsToLocals, Value.category]; done) | rfl
def Q22 (Z : State) (a0 : Array Value) (a1 : Addr) (q2 : Int64) (t : Addr) (sz : Int32) (h0 : Heap) (n0 : Nat) (v : Option Value) (h : Heap) (L : List Loc) : Prop := ∃ r : Int32, v = some (.int r) ∧ Fr n0 L ∧ h = h0 ∧ (0 ≤ r.toInt ∧ r.toInt ≤ sz.toInt)
set_option maxRecDepth 65536 in
set_option maxHeartbeats 40000000 in
theorem rm22 (l : Launch) (Z : State) (a0 : Array Value) (hw : ∀ d ∈ tables_1, d.before a0 Z = true) (ws : List Jvm.Cond) (a1 : Addr) (q2 : Int64) (t : Addr) (sz : Int32) (h0 : Heap) (n0 : Nat) (Z0 : n0 ≤ h0.size) (F1 : FE Z a0 h0 a1 nCh "time" "[J" (.ref t)) (L1 : LJ Z h0 t (4 : Int32)) (F2 : FE Z a0 h0 a1 nCh "size" "I" (.int sz)) (hs : 1 ≤ sz.toInt ∧ sz.toInt ≤ 4) :
    MetFree l y_5 (head1 (Jvm.Cond.code y_5 prog_99_method_21_code 3 (some .int) :: ws) ({ frames := 1, cells := 0, slots := 0, locals := 18 } : Room)) (fun a U => a = #[(.ref a1), (.long q2)] ∧ Z.Warmed39 U.vm ∧ U.heap = h0) (fun _ _ _ _ _ => True) (fun _ U o U' => ∃ v L, o = .returned v ∧ Q22 Z a0 a1 q2 t sz h0 n0 v U'.heap L ∧ FrameEnd U o U' L ({ frames := 1, cells := 0, slots := 0, locals := 18 } : Room).cells ({ frames := 1, cells := 0, slots := 0, locals := 18 } : Room).slots) := by
  refine MetFree.of_bodySF (plainFor_of_name pn_22) hisR ?_
  intro p e s m args below meth c s₁ Bd hml0 hP hK
  obtain ⟨rfl, hZ, hh⟩ := hP
  have hx := Bd.exec
  have hby := Bd.bytes
  have hml : c.maxLocals = 3 := hml0
  have hown : s.vm.findClass "com/example/slackline/slackline/replay/Steps" = some m.cls := findClass_of_methodNamed Bd.named
  have hnm := (name_of_methodNamed Bd.named Bd.method).1
  have X0 : Stand p l e ({ frames := 1, cells := 0, slots := 0, locals := 18 } : Room) s m #[(.ref a1), (.long q2)] below meth c s₁ [] 0 0 := Stand.of_body Bd
  have e0 : s₁.heap = h0 := by rw [← hh, Bd.state]; rfl
  have N0 := Fr.nil n0
  have H : ∀ (k : Nat) {i : Nat} {r : Instr × Nat}, dt22[k]? = some (i, r) → decode c.code i = .ok r := fun _ i r q => hb hby (dk22 (i, r) (List.mem_of_getElem? q))
  obtain ⟨F0, hF0⟩ : ∃ F : JFrame, F = entryFrame m #[(.ref a1), (.long q2)] 3 := ⟨_, rfl⟩
  have pre0 : ∀ t, Steps p.tables e below (s₁.setTop F0) t → Steps p.tables e below (s₁.setTop (entryFrame m #[(.ref a1), (.long q2)] 3)) t := fun t k => hF0 ▸ k
  have go0 : Go p e below s₁ F0 s₁ (mkF m 0 #[vr a1, vj q2, .second] []) := fun t k => castTop (hF0.trans (ef_22 m a1 q2)) k
  have go1 := (s_aloadN go0 X0 hx (H 0 rfl) rfl rfl)
  obtain ⟨T2, X2, e2, go2⟩ := gF go1 X0 hx hZ hown (own_w hw 173 rfl) e0 F1.2.1 (H 1 rfl)
  have go3 := (s_iconst go2 X2 hx (H 2 rfl) (v := 0) rfl)
  obtain ⟨x4, go4⟩ := lJ go3 X2 hx hZ e2 L1 ⟨by decide, by decide⟩ (H 3 rfl)
  have go5 := (s_lcmp (s_lloadN go4 X2 hx (H 4 rfl) rfl) X2 hx (H 5 rfl))
  by_cases hc8_6 : x4 < q2
  ·have go7 := (s_aloadN (s_ifNo go5 X2 hx (H 6 rfl) ((if0 _ _).trans (tlt ((lw_lt _ _).mpr hc8_6)).2.1)) X2 hx (H 7 rfl) rfl rfl)
   obtain ⟨T8, X8, e8, go8⟩ := gF go7 X2 hx hZ hown (own_w hw 173 rfl) e2 F1.2.1 (H 8 rfl)
   have go9 := (s_aloadN go8 X8 hx (H 9 rfl) rfl rfl)
   obtain ⟨T10, X10, e10, go10⟩ := gF go9 X8 hx hZ hown (own_w hw 112 rfl) e8 F2.2.1 (H 10 rfl)
   have go11 := (s_lsub (s_lconst (s_lloadN go10 X10 hx (H 11 rfl) rfl) X10 hx (H 12 rfl) (v := 1) rfl) X10 hx (H 13 rfl))
   obtain ⟨_, _, ⟨T12, L12, k12, n12⟩, -, X12, ⟨Lc12, hQ12, l12, y12, z12⟩, g12⟩ := c_s go11 (Jvm.LawKit.callS X10 hx (y := y_3) hown (mvT hZ (own_w hw 174 rfl)) (mvT hZ (own_w hw 175 rfl)) (mvT hZ (own_w hw 41 rfl)) (mvT hZ (own_w hw 176 rfl)) (by decide) (backOf (W := 0) (rm15 l Z a0 hw [] t sz (q2 - 1) h0 n0 Z0 L1 (d4_of rfl hs)) hZ (own_w hw 176 rfl) (own_w hw 41 rfl) (by decide) (by decide)) (g := mkF m _ _ _) rfl (by rw [hml]; rfl) (argsL := [(.ref t), (.int sz), (.long (q2 - 1))]) (rest := []) (lenOf pd22_0 rfl) rfl (by show 2 * 0 + _ ≤ _; exact Nat.le_of_eq rfl) (H 14 rfl) (fun _ _ => ⟨rfl, e10, (by decide : 0 + 0 ≤ _), (by decide : 0 + 0 ≤ _)⟩))
   dsimp only [Pt.U, Pt.locs, Pt.cells, Pt.slots] at X12 l12 y12 z12 g12 hQ12
   subst l12 y12 z12
   obtain ⟨r_12, rfl, Nq12, eh12, hr_12⟩ := hQ12
   have N12 := Fr.app N0 Nq12
   have go13 := cr g12
   have go14 := (s_goto (s_iadd (s_iconst go13 X12 hx (H 15 rfl) (v := 1) rfl) X12 hx (H 16 rfl)) X12 hx (H 17 rfl) (pc' := 31) rfl (by decide))
   refine own_fI (Q := Q22 Z a0 a1 q2 t sz h0 n0) Bd.notSynchronized hx Bd.returns pre0 X12 go14 (H 19 rfl) eh12 (by decide) (by decide) ?_
   exact ⟨(r_12 + 1), rfl, N12, rfl, (by have q_ := (n_add (nr r_12) nl1 (by omega)); omega)⟩
  have go15 := (s_iconst (s_ifYes go5 X2 hx (H 6 rfl) (pc' := 30) rfl (by decide) ((if0 _ _).trans (flt (fun q => hc8_6 ((lw_lt _ _).mp q))).2.1)) X2 hx (H 18 rfl) (v := 0) rfl)
  refine own_fI (Q := Q22 Z a0 a1 q2 t sz h0 n0) Bd.notSynchronized hx Bd.returns pre0 X2 go15 (H 19 rfl) e2 (by decide) (by decide) ?_
  exact ⟨(0 : Int32), rfl, N0, rfl, (by have q_ := nl0; omega)⟩

def dt13 : List (Nat × Instr × Nat) := [(0, .aload_n 0, 1), (1, .getfield 290, 3), (4, .istore_n 3, 1), (5, .aload_n 0, 1), (6, .getfield 89, 3), (9, .istore 4, 2), (11, .iload_n 3, 1), (12, .iload 4, 2), (14, .if_icmp .ge 27, 3), (17, .aload_n 0, 1), (18, .getfield 56, 3), (21, .iload_n 3, 1), (22, .laload, 1), (23, .lload_n 1, 1), (24, .lcmp, 1), (25, .ifCond .gt 16, 3), (28, .aload_n 0, 1), (29, .getfield 56, 3), (32, .iload_n 3, 1), (33, .iconst 1, 1), (34, .iadd, 1), (35, .laload, 1), (36, .lload_n 1, 1), (37, .lcmp, 1), (38, .ifCond .gt 19, 3), (41, .aload_n 0, 1), (42, .getfield 56, 3), (45, .iload 4, 2), (47, .lload_n 1, 1), (48, .invokestatic 214, 3), (51, .istore_n 3, 1), (52, .aload_n 0, 1), (53, .iload_n 3, 1), (54, .putfield 290, 3), (57, .iload_n 3, 1), (58, .ireturn, 1)]
theorem dk13 : ∀ x ∈ dt13, decode prog_99_method_34_code x.1 = .ok x.2 := by decide +kernel
theorem pn_13 : plainName "com/example/slackline/slackline/replay/Steps" = true := by first | (simp [plainName, overriddenIn]; done) | decide +kernel
theorem pd13_0 : parseMethodDescriptor "([JIJ)I" = some ⟨[(.array .long), .int, .long], some .int⟩ := by decide +kernel
theorem ef_13 (m : MethodId) (x0 : Addr) (x1 : Int64) : entryFrame m #[(.ref x0), (.long x1)] 5 = mkF m 0 #[vr x0, vj x1, .second, .unset, .unset] [] := by first | (simp [entryFrame, mkF, argsToLocals, Value.category]; done) | rfl
def Q13 (Z : State) (a0 : Array Value) (a1 : Addr) (q2 : Int64) (lf : Int32) (cc : Int32) (oF : Addr) (h0 : Heap) (n0 : Nat) (v : Option Value) (h : Heap) (L : List Loc) : Prop := ∃ r : Int32, v = some (.int r) ∧ Fr n0 L ∧ KN n0 h0 h ∧ Pres Z a0 h0 h [(a1, "lastFloor")] ∧ (0 ≤ r.toInt ∧ r.toInt < cc.toInt) ∧ FE Z a0 h a1 nSt "lastFloor" "I" (.int r)
set_option maxRecDepth 65536 in
set_option maxHeartbeats 40000000 in
theorem rm13 (l : Launch) (Z : State) (a0 : Array Value) (hw : ∀ d ∈ tables_1, d.before a0 Z = true) (ws : List Jvm.Cond) (a1 : Addr) (q2 : Int64) (lf : Int32) (cc : Int32) (oF : Addr) (h0 : Heap) (n0 : Nat) (Z0 : n0 ≤ h0.size) (F1 : FE Z a0 h0 a1 nSt "lastFloor" "I" (.int lf)) (F2 : FE Z a0 h0 a1 nSt "chunkCount" "I" (.int cc)) (F3 : FE Z a0 h0 a1 nSt "firstTimes" "[J" (.ref oF)) (L1 : LJ Z h0 oF (4 : Int32)) (hl : 0 ≤ lf.toInt) (hc : 1 ≤ cc.toInt ∧ cc.toInt ≤ 3) (g1 : n0 ≤ a1) :
    MetFree l y_6 (head1 (Jvm.Cond.code y_6 prog_99_method_34_code 5 (some .int) :: ws) ({ frames := 1, cells := 0, slots := 0, locals := 18 } : Room)) (fun a U => a = #[(.ref a1), (.long q2)] ∧ Z.Warmed39 U.vm ∧ U.heap = h0) (fun _ _ _ _ _ => True) (fun _ U o U' => ∃ v L, o = .returned v ∧ Q13 Z a0 a1 q2 lf cc oF h0 n0 v U'.heap L ∧ FrameEnd U o U' L ({ frames := 1, cells := 0, slots := 0, locals := 18 } : Room).cells ({ frames := 1, cells := 0, slots := 0, locals := 18 } : Room).slots) := by
  refine MetFree.of_bodySF (plainFor_of_name pn_13) hisR ?_
  intro p e s m args below meth c s₁ Bd hml0 hP hK
  obtain ⟨rfl, hZ, hh⟩ := hP
  have hx := Bd.exec
  have hby := Bd.bytes
  have hml : c.maxLocals = 5 := hml0
  have hown : s.vm.findClass "com/example/slackline/slackline/replay/Steps" = some m.cls := findClass_of_methodNamed Bd.named
  have hnm := (name_of_methodNamed Bd.named Bd.method).1
  have X0 : Stand p l e ({ frames := 1, cells := 0, slots := 0, locals := 18 } : Room) s m #[(.ref a1), (.long q2)] below meth c s₁ [] 0 0 := Stand.of_body Bd
  have e0 : s₁.heap = h0 := by rw [← hh, Bd.state]; rfl
  have N0 := Fr.nil n0
  have H : ∀ (k : Nat) {i : Nat} {r : Instr × Nat}, dt13[k]? = some (i, r) → decode c.code i = .ok r := fun _ i r q => hb hby (dk13 (i, r) (List.mem_of_getElem? q))
  have KN0 : KN n0 h0 h0 := KN.refl n0 h0
  have PP0 : Pres Z a0 h0 h0 [] := Pres.refl Z a0 h0
  obtain ⟨F0, hF0⟩ : ∃ F : JFrame, F = entryFrame m #[(.ref a1), (.long q2)] 5 := ⟨_, rfl⟩
  have pre0 : ∀ t, Steps p.tables e below (s₁.setTop F0) t → Steps p.tables e below (s₁.setTop (entryFrame m #[(.ref a1), (.long q2)] 5)) t := fun t k => hF0 ▸ k
  have go0 : Go p e below s₁ F0 s₁ (mkF m 0 #[vr a1, vj q2, .second, .unset, .unset] []) := fun t k => castTop (hF0.trans (ef_13 m a1 q2)) k
  have go1 := (s_aloadN go0 X0 hx (H 0 rfl) rfl rfl)
  obtain ⟨T2, X2, e2, go2⟩ := gF go1 X0 hx hZ hown (own_w hw 165 rfl) e0 F1.2.1 (H 1 rfl)
  have go3 := (s_aloadN (s_istoreN go2 X2 hx (H 2 rfl) (L' := #[vr a1, vj q2, .second, vi lf, .unset]) rfl) X2 hx (H 3 rfl) rfl rfl)
  obtain ⟨T4, X4, e4, go4⟩ := gF go3 X2 hx hZ hown (own_w hw 114 rfl) e2 F2.2.1 (H 4 rfl)
  have go5 := (s_iload (s_iloadN (s_istore go4 X4 hx (H 5 rfl) (L' := #[vr a1, vj q2, .second, vi lf, vi cc]) rfl) X4 hx (H 6 rfl) rfl) X4 hx (H 7 rfl) rfl)
  by_cases hc14_6 : lf < cc
  ·have ihc14_6 := n_ltI (nr lf) (nr cc) hc14_6
   have go7 := (s_aloadN (s_icmpNo go5 X4 hx (H 8 rfl) (tlt hc14_6).2.1) X4 hx (H 9 rfl) rfl rfl)
   obtain ⟨T8, X8, e8, go8⟩ := gF go7 X4 hx hZ hown (own_w hw 51 rfl) e4 F3.2.1 (H 10 rfl)
   have go9 := (s_iloadN go8 X8 hx (H 11 rfl) rfl)
   obtain ⟨x10, go10⟩ := lJ go9 X8 hx hZ e8 L1 (n_in (nr lf) nl4 (by omega)) (H 12 rfl)
   have go11 := (s_lcmp (s_lloadN go10 X8 hx (H 13 rfl) rfl) X8 hx (H 14 rfl))
   by_cases hc25_12 : q2 < x10
   ·have go13 := (s_aloadN (s_ifYes go11 X8 hx (H 15 rfl) (pc' := 41) rfl (by decide) ((if0 _ _).trans (tlt ((lw_gt _ _).mpr hc25_12)).2.2.1)) X8 hx (H 25 rfl) rfl rfl)
    obtain ⟨T14, X14, e14, go14⟩ := gF go13 X8 hx hZ hown (own_w hw 51 rfl) e8 F3.2.1 (H 26 rfl)
    have go15 := (s_lloadN (s_iload go14 X14 hx (H 27 rfl) rfl) X14 hx (H 28 rfl) rfl)
    obtain ⟨_, _, ⟨T16, L16, k16, n16⟩, -, X16, ⟨Lc16, hQ16, l16, y16, z16⟩, g16⟩ := c_s go15 (Jvm.LawKit.callS X14 hx (y := y_3) hown (mvT hZ (own_w hw 174 rfl)) (mvT hZ (own_w hw 175 rfl)) (mvT hZ (own_w hw 41 rfl)) (mvT hZ (own_w hw 176 rfl)) (by decide) (backOf (W := 0) (rm15 l Z a0 hw [] oF cc q2 h0 n0 Z0 L1 (d4_of rfl (by omega))) hZ (own_w hw 176 rfl) (own_w hw 41 rfl) (by decide) (by decide)) (g := mkF m _ _ _) rfl (by rw [hml]; rfl) (argsL := [(.ref oF), (.int cc), (.long q2)]) (rest := []) (lenOf pd13_0 rfl) rfl (by show 2 * 0 + _ ≤ _; exact Nat.le_of_eq rfl) (H 29 rfl) (fun _ _ => ⟨rfl, e14, (by decide : 0 + 0 ≤ _), (by decide : 0 + 0 ≤ _)⟩))
    dsimp only [Pt.U, Pt.locs, Pt.cells, Pt.slots] at X16 l16 y16 z16 g16 hQ16
    subst l16 y16 z16
    obtain ⟨r_16, rfl, Nq16, eh16, hr_16⟩ := hQ16
    have N16 := Fr.app N0 Nq16
    have go17 := cr g16
    have go18 := (s_iloadN (s_aloadN (s_istoreN go17 X16 hx (H 30 rfl) (L' := #[vr a1, vj q2, .second, vi r_16, vi cc]) rfl) X16 hx (H 31 rfl) rfl rfl) X16 hx (H 32 rfl) rfl)
    obtain ⟨T19, h19, X19, e19, W19, go19⟩ := pF go18 X16 hx hZ hown (own_w hw 165 rfl) eh16 F1 (Or.inl (own_w hw 166 rfl)) pf_0 rfl rfl (H 33 rfl)
    have Fw19 := F1.self W19
    have P20 : Pres Z a0 _ _ _ := Pres.fIx (by decide) F1 W19 (by decide)
    have KN20 := KN0.trans (KN.wr W19 g1)
    have Z20 := Nat.le_trans Z0 P20.1
    have N19 := Fr.snoc X19 N16 g1
    have go21 := (s_iloadN go19 X19 hx (H 34 rfl) rfl)
    refine own_fI (Q := Q13 Z a0 a1 q2 lf cc oF h0 n0) Bd.notSynchronized hx Bd.returns pre0 X19 go21 (H 35 rfl) e19 (by decide) (by decide) ?_
    exact ⟨r_16, rfl, N19, KN20, P20, (by first | assumption | decide | omega), Fw19⟩
   have go22 := (s_aloadN (s_ifNo go11 X8 hx (H 15 rfl) ((if0 _ _).trans (flt (fun q => hc25_12 ((lw_gt _ _).mp q))).2.2.1)) X8 hx (H 16 rfl) rfl rfl)
   obtain ⟨T23, X23, e23, go23⟩ := gF go22 X8 hx hZ hown (own_w hw 51 rfl) e8 F3.2.1 (H 17 rfl)
   have go24 := (s_iadd (s_iconst (s_iloadN go23 X23 hx (H 18 rfl) rfl) X23 hx (H 19 rfl) (v := 1) rfl) X23 hx (H 20 rfl))
   obtain ⟨x25, go25⟩ := lJ go24 X23 hx hZ e23 L1 (n_in (n_add (nr lf) nl1 (by omega)) nl4 (by omega)) (H 21 rfl)
   have go26 := (s_lcmp (s_lloadN go25 X23 hx (H 22 rfl) rfl) X23 hx (H 23 rfl))
   by_cases hc38_27 : q2 < x25
   ·have go28 := (s_iloadN (s_ifYes go26 X23 hx (H 24 rfl) (pc' := 57) rfl (by decide) ((if0 _ _).trans (tlt ((lw_gt _ _).mpr hc38_27)).2.2.1)) X23 hx (H 34 rfl) rfl)
    refine own_fI (Q := Q13 Z a0 a1 q2 lf cc oF h0 n0) Bd.notSynchronized hx Bd.returns pre0 X23 go28 (H 35 rfl) e23 (by decide) (by decide) ?_
    exact ⟨lf, rfl, N0, KN0, (PP0.nil_mono _), (by first | assumption | decide | omega), F1⟩
   have go29 := (s_aloadN (s_ifNo go26 X23 hx (H 24 rfl) ((if0 _ _).trans (flt (fun q => hc38_27 ((lw_gt _ _).mp q))).2.2.1)) X23 hx (H 25 rfl) rfl rfl)
   obtain ⟨T30, X30, e30, go30⟩ := gF go29 X23 hx hZ hown (own_w hw 51 rfl) e23 F3.2.1 (H 26 rfl)
   have go31 := (s_lloadN (s_iload go30 X30 hx (H 27 rfl) rfl) X30 hx (H 28 rfl) rfl)
   obtain ⟨_, _, ⟨T32, L32, k32, n32⟩, -, X32, ⟨Lc32, hQ32, l32, y32, z32⟩, g32⟩ := c_s go31 (Jvm.LawKit.callS X30 hx (y := y_3) hown (mvT hZ (own_w hw 174 rfl)) (mvT hZ (own_w hw 175 rfl)) (mvT hZ (own_w hw 41 rfl)) (mvT hZ (own_w hw 176 rfl)) (by decide) (backOf (W := 0) (rm15 l Z a0 hw [] oF cc q2 h0 n0 Z0 L1 (d4_of rfl (by omega))) hZ (own_w hw 176 rfl) (own_w hw 41 rfl) (by decide) (by decide)) (g := mkF m _ _ _) rfl (by rw [hml]; rfl) (argsL := [(.ref oF), (.int cc), (.long q2)]) (rest := []) (lenOf pd13_0 rfl) rfl (by show 2 * 0 + _ ≤ _; exact Nat.le_of_eq rfl) (H 29 rfl) (fun _ _ => ⟨rfl, e30, (by decide : 0 + 0 ≤ _), (by decide : 0 + 0 ≤ _)⟩))
   dsimp only [Pt.U, Pt.locs, Pt.cells, Pt.slots] at X32 l32 y32 z32 g32 hQ32
   subst l32 y32 z32
   obtain ⟨r_32, rfl, Nq32, eh32, hr_32⟩ := hQ32
   have N32 := Fr.app N0 Nq32
   have go33 := cr g32
   have go34 := (s_iloadN (s_aloadN (s_istoreN go33 X32 hx (H 30 rfl) (L' := #[vr a1, vj q2, .second, vi r_32, vi cc]) rfl) X32 hx (H 31 rfl) rfl rfl) X32 hx (H 32 rfl) rfl)
   obtain ⟨T35, h35, X35, e35, W35, go35⟩ := pF go34 X32 hx hZ hown (own_w hw 165 rfl) eh32 F1 (Or.inl (own_w hw 166 rfl)) pf_0 rfl rfl (H 33 rfl)
   have Fw35 := F1.self W35
   have P36 : Pres Z a0 _ _ _ := Pres.fIx (by decide) F1 W35 (by decide)
   have KN36 := KN0.trans (KN.wr W35 g1)
   have Z36 := Nat.le_trans Z0 P36.1
   have N35 := Fr.snoc X35 N32 g1
   have go37 := (s_iloadN go35 X35 hx (H 34 rfl) rfl)
   refine own_fI (Q := Q13 Z a0 a1 q2 lf cc oF h0 n0) Bd.notSynchronized hx Bd.returns pre0 X35 go37 (H 35 rfl) e35 (by decide) (by decide) ?_
   exact ⟨r_32, rfl, N35, KN36, P36, (by first | assumption | decide | omega), Fw35⟩
  have ihc14_6 := n_nltI (nr lf) (nr cc) hc14_6
  have go38 := (s_aloadN (s_icmpYes go5 X4 hx (H 8 rfl) (pc' := 41) rfl (by decide) (flt hc14_6).2.1) X4 hx (H 25 rfl) rfl rfl)
  obtain ⟨T39, X39, e39, go39⟩ := gF go38 X4 hx hZ hown (own_w hw 51 rfl) e4 F3.2.1 (H 26 rfl)
  have go40 := (s_lloadN (s_iload go39 X39 hx (H 27 rfl) rfl) X39 hx (H 28 rfl) rfl)
  obtain ⟨_, _, ⟨T41, L41, k41, n41⟩, -, X41, ⟨Lc41, hQ41, l41, y41, z41⟩, g41⟩ := c_s go40 (Jvm.LawKit.callS X39 hx (y := y_3) hown (mvT hZ (own_w hw 174 rfl)) (mvT hZ (own_w hw 175 rfl)) (mvT hZ (own_w hw 41 rfl)) (mvT hZ (own_w hw 176 rfl)) (by decide) (backOf (W := 0) (rm15 l Z a0 hw [] oF cc q2 h0 n0 Z0 L1 (d4_of rfl (by omega))) hZ (own_w hw 176 rfl) (own_w hw 41 rfl) (by decide) (by decide)) (g := mkF m _ _ _) rfl (by rw [hml]; rfl) (argsL := [(.ref oF), (.int cc), (.long q2)]) (rest := []) (lenOf pd13_0 rfl) rfl (by show 2 * 0 + _ ≤ _; exact Nat.le_of_eq rfl) (H 29 rfl) (fun _ _ => ⟨rfl, e39, (by decide : 0 + 0 ≤ _), (by decide : 0 + 0 ≤ _)⟩))
  dsimp only [Pt.U, Pt.locs, Pt.cells, Pt.slots] at X41 l41 y41 z41 g41 hQ41
  subst l41 y41 z41
  obtain ⟨r_41, rfl, Nq41, eh41, hr_41⟩ := hQ41
  have N41 := Fr.app N0 Nq41
  have go42 := cr g41
  have go43 := (s_iloadN (s_aloadN (s_istoreN go42 X41 hx (H 30 rfl) (L' := #[vr a1, vj q2, .second, vi r_41, vi cc]) rfl) X41 hx (H 31 rfl) rfl rfl) X41 hx (H 32 rfl) rfl)
  obtain ⟨T44, h44, X44, e44, W44, go44⟩ := pF go43 X41 hx hZ hown (own_w hw 165 rfl) eh41 F1 (Or.inl (own_w hw 166 rfl)) pf_0 rfl rfl (H 33 rfl)
  have Fw44 := F1.self W44
  have P45 : Pres Z a0 _ _ _ := Pres.fIx (by decide) F1 W44 (by decide)
  have KN45 := KN0.trans (KN.wr W44 g1)
  have Z45 := Nat.le_trans Z0 P45.1
  have N44 := Fr.snoc X44 N41 g1
  have go46 := (s_iloadN go44 X44 hx (H 34 rfl) rfl)
  refine own_fI (Q := Q13 Z a0 a1 q2 lf cc oF h0 n0) Bd.notSynchronized hx Bd.returns pre0 X44 go46 (H 35 rfl) e44 (by decide) (by decide) ?_
  exact ⟨r_41, rfl, N44, KN45, P45, (by first | assumption | decide | omega), Fw44⟩

def dt25 : List (Nat × Instr × Nat) := [(0, .aload_n 0, 1), (1, .dup, 1), (2, .getfield 269, 3), (5, .lconst 1, 1), (6, .ladd, 1), (7, .putfield 269, 3), (10, .aload_n 0, 1), (11, .getfield 124, 3), (14, .dup, 1), (15, .getfield 281, 3), (18, .lconst 1, 1), (19, .ladd, 1), (20, .putfield 281, 3), (23, .return_, 1)]
theorem dk25 : ∀ x ∈ dt25, decode prog_99_method_38_code x.1 = .ok x.2 := by decide +kernel
theorem pn_25 : plainName "com/example/slackline/slackline/replay/Steps" = true := by first | (simp [plainName, overriddenIn]; done) | decide +kernel
theorem ef_25 (m : MethodId) (x0 : Addr) : entryFrame m #[(.ref x0)] 1 = mkF m 0 #[vr x0] [] := by first | (simp [entryFrame, mkF, argsToLocals, Value.category]; done) | rfl
def Q25 (Z : State) (a0 : Array Value) (a1 : Addr) (x : Int64) (oB : Addr) (w : Int64) (h0 : Heap) (n0 : Nat) (v : Option Value) (h : Heap) (L : List Loc) : Prop := ∃ x2 : Int64, ∃ w2 : Int64, v = none ∧ Fr n0 L ∧ KN n0 h0 h ∧ Pres Z a0 h0 h [(a1, "version"), (oB, "version")] ∧ FE Z a0 h a1 nCh "version" "J" (.long x2) ∧ FE Z a0 h oB nBl "version" "J" (.long w2)
set_option maxRecDepth 65536 in
set_option maxHeartbeats 40000000 in
theorem rm25 (l : Launch) (Z : State) (a0 : Array Value) (hw : ∀ d ∈ tables_1, d.before a0 Z = true) (ws : List Jvm.Cond) (a1 : Addr) (x : Int64) (oB : Addr) (w : Int64) (h0 : Heap) (n0 : Nat) (Z0 : n0 ≤ h0.size) (F1 : FE Z a0 h0 a1 nCh "version" "J" (.long x)) (F2 : FE Z a0 h0 a1 nCh "block" dBl (.ref oB)) (F3 : FE Z a0 h0 oB nBl "version" "J" (.long w)) (g1 : n0 ≤ a1) (g2 : n0 ≤ oB) :
    MetFree l y_7 (head1 (Jvm.Cond.code y_7 prog_99_method_38_code 1 none :: ws) ({ frames := 0, cells := 0, slots := 0, locals := 0 } : Room)) (fun a U => a = #[(.ref a1)] ∧ Z.Warmed39 U.vm ∧ U.heap = h0) (fun _ _ _ _ _ => True) (fun _ U o U' => ∃ v L, o = .returned v ∧ Q25 Z a0 a1 x oB w h0 n0 v U'.heap L ∧ FrameEnd U o U' L ({ frames := 0, cells := 0, slots := 0, locals := 0 } : Room).cells ({ frames := 0, cells := 0, slots := 0, locals := 0 } : Room).slots) := by
  refine MetFree.of_bodySF (plainFor_of_name pn_25) hisR ?_
  intro p e s m args below meth c s₁ Bd hml0 hP hK
  obtain ⟨rfl, hZ, hh⟩ := hP
  have hx := Bd.exec
  have hby := Bd.bytes
  have hml : c.maxLocals = 1 := hml0
  have hown : s.vm.findClass "com/example/slackline/slackline/replay/Steps" = some m.cls := findClass_of_methodNamed Bd.named
  have hnm := (name_of_methodNamed Bd.named Bd.method).1
  have X0 : Stand p l e ({ frames := 0, cells := 0, slots := 0, locals := 0 } : Room) s m #[(.ref a1)] below meth c s₁ [] 0 0 := Stand.of_body Bd
  have e0 : s₁.heap = h0 := by rw [← hh, Bd.state]; rfl
  have N0 := Fr.nil n0
  have H : ∀ (k : Nat) {i : Nat} {r : Instr × Nat}, dt25[k]? = some (i, r) → decode c.code i = .ok r := fun _ i r q => hb hby (dk25 (i, r) (List.mem_of_getElem? q))
  have KN0 : KN n0 h0 h0 := KN.refl n0 h0
  have PP0 : Pres Z a0 h0 h0 [] := Pres.refl Z a0 h0
  obtain ⟨F0, hF0⟩ : ∃ F : JFrame, F = entryFrame m #[(.ref a1)] 1 := ⟨_, rfl⟩
  have pre0 : ∀ t, Steps p.tables e below (s₁.setTop F0) t → Steps p.tables e below (s₁.setTop (entryFrame m #[(.ref a1)] 1)) t := fun t k => hF0 ▸ k
  have go0 : Go p e below s₁ F0 s₁ (mkF m 0 #[vr a1] []) := fun t k => castTop (hF0.trans (ef_25 m a1)) k
  have go1 := (s_dup (s_aloadN go0 X0 hx (H 0 rfl) rfl rfl) X0 hx (H 1 rfl) rfl)
  obtain ⟨T2, X2, e2, go2⟩ := gF go1 X0 hx hZ hown (own_w hw 253 rfl) e0 F1.2.1 (H 2 rfl)
  have go3 := (s_ladd (s_lconst go2 X2 hx (H 3 rfl) (v := 1) rfl) X2 hx (H 4 rfl))
  obtain ⟨T4, h4, X4, e4, W4, go4⟩ := pF go3 X2 hx hZ hown (own_w hw 253 rfl) e2 F1 (Or.inl (own_w hw 254 rfl)) pf_1 rfl rfl (H 5 rfl)
  have Fw4 := F1.self W4
  have P5 : Pres Z a0 _ _ _ := Pres.fJ F1 W4
  have KN5 := KN0.trans (KN.wr W4 g1)
  have Z5 := Nat.le_trans Z0 P5.1
  have N4 := Fr.snoc X4 N0 g1
  have F6 := P5.fe F2 (nS rfl)
  have go7 := (s_aloadN go4 X4 hx (H 6 rfl) rfl rfl)
  obtain ⟨T8, X8, e8, go8⟩ := gF go7 X4 hx hZ hown (own_w hw 249 rfl) e4 F6.2.1 (H 7 rfl)
  have F9 := P5.ex F3.1
  have ne10 := ne_exa F9 Fw4.1 (by decide)
  have F11 := P5.fe F3 (ninA ne10 ninP0)
  have go12 := (s_dup go8 X8 hx (H 8 rfl) rfl)
  obtain ⟨T13, X13, e13, go13⟩ := gF go12 X8 hx hZ hown (own_w hw 255 rfl) e8 F11.2.1 (H 9 rfl)
  have go14 := (s_ladd (s_lconst go13 X13 hx (H 10 rfl) (v := 1) rfl) X13 hx (H 11 rfl))
  obtain ⟨T15, h15, X15, e15, W15, go15⟩ := pF go14 X13 hx hZ hown (own_w hw 255 rfl) e13 F11 (Or.inl (own_w hw 111 rfl)) pf_1 rfl rfl (H 12 rfl)
  have Fw15 := F11.self W15
  have P16 : Pres Z a0 _ _ _ := Pres.fJ F11 W15
  have KN16 := KN5.trans (KN.wr W15 g2)
  have Z16 := Nat.le_trans Z5 P16.1
  have N15 := Fr.snoc X15 N4 g2
  refine own_f0 (Q := Q25 Z a0 a1 x oB w h0 n0) Bd.notSynchronized hx Bd.returns pre0 X15 go15 (H 13 rfl) e15 (by decide) (by decide) ?_
  have F17 := P16.fe Fw4 (ninA (Ne.symm ne10) ninP0)
  exact ⟨(x + 1), (w + 1), rfl, N15, KN16, (P5.trans P16), F17, Fw15⟩

def dt20 : List (Nat × Instr × Nat) := [(0, .aload_n 1, 1), (1, .getfield 111, 3), (4, .iload_n 2, 1), (5, .aload_n 3, 1), (6, .getfield 111, 3), (9, .iload 4, 2), (11, .iload 5, 2), (13, .invokestatic 140, 3), (16, .aload_n 1, 1), (17, .getfield 152, 3), (20, .iload_n 2, 1), (21, .aload_n 3, 1), (22, .getfield 152, 3), (25, .iload 4, 2), (27, .iload 5, 2), (29, .invokestatic 140, 3), (32, .aload_n 1, 1), (33, .getfield 33, 3), (36, .iload_n 2, 1), (37, .aload_n 0, 1), (38, .getfield 25, 3), (41, .imul, 1), (42, .aload_n 3, 1), (43, .getfield 33, 3), (46, .iload 4, 2), (48, .aload_n 0, 1), (49, .getfield 25, 3), (52, .imul, 1), (53, .iload 5, 2), (55, .aload_n 0, 1), (56, .getfield 25, 3), (59, .imul, 1), (60, .invokestatic 140, 3), (63, .return_, 1)]
theorem dk20 : ∀ x ∈ dt20, decode prog_99_method_42_code x.1 = .ok x.2 := by decide +kernel
theorem pn_20 : plainName "com/example/slackline/slackline/replay/Steps" = true := by first | (simp [plainName, overriddenIn]; done) | decide +kernel
theorem ef_20 (m : MethodId) (x0 : Addr) (x1 : Addr) (x2 : Int32) (x3 : Addr) (x4 : Int32) (x5 : Int32) : entryFrame m #[(.ref x0), (.ref x1), (.int x2), (.ref x3), (.int x4), (.int x5)] 6 = mkF m 0 #[vr x0, vr x1, vi x2, vr x3, vi x4, vi x5] [] := by first | (simp [entryFrame, mkF, argsToLocals, Value.category]; done) | rfl
def Q20 (Z : State) (a0 : Array Value) (a1 : Addr) (a2 : Addr) (p3 : Int32) (a4 : Addr) (p5 : Int32) (p6 : Int32) (t : Addr) (f : Addr) (u : Addr) (t2 : Addr) (f2 : Addr) (u2 : Addr) (h0 : Heap) (n0 : Nat) (v : Option Value) (h : Heap) (L : List Loc) : Prop := v = none ∧ Fr n0 L ∧ KN n0 h0 h ∧ Pres Z a0 h0 h []
set_option maxRecDepth 65536 in
set_option maxHeartbeats 40000000 in
theorem rm20 (l : Launch) (Z : State) (a0 : Array Value) (hw : ∀ d ∈ tables_1, d.before a0 Z = true) (ws : List Jvm.Cond) (a1 : Addr) (a2 : Addr) (p3 : Int32) (a4 : Addr) (p5 : Int32) (p6 : Int32) (t : Addr) (f : Addr) (u : Addr) (t2 : Addr) (f2 : Addr) (u2 : Addr) (h0 : Heap) (n0 : Nat) (Z0 : n0 ≤ h0.size) (Fk : FE Z a0 h0 a1 nSt "kinds" "I" (.int 1)) (F1 : FE Z a0 h0 a2 nCh "time" "[J" (.ref t)) (L1 : LJ Z h0 t (4 : Int32)) (F2 : FE Z a0 h0 a2 nCh "finishing" "[I" (.ref f)) (L2 : LI Z h0 f (4 : Int32)) (F3 : FE Z a0 h0 a2 nCh "inUse" "[J" (.ref u)) (L3 : LJ Z h0 u (4 : Int32)) (F12 : FE Z a0 h0 a4 nCh "time" "[J" (.ref t2)) (L12 : LJ Z h0 t2 (4 : Int32)) (F22 : FE Z a0 h0 a4 nCh "finishing" "[I" (.ref f2)) (L22 : LI Z h0 f2 (4 : Int32)) (F32 : FE Z a0 h0 a4 nCh "inUse" "[J" (.ref u2)) (L32 : LJ Z h0 u2 (4 : Int32)) (g1 : n0 ≤ t2) (g2 : n0 ≤ f2) (g3 : n0 ≤ u2) (hr : 0 ≤ p3.toInt ∧ 0 ≤ p5.toInt ∧ 0 ≤ p6.toInt ∧ p3.toInt + p6.toInt ≤ 4 ∧ p5.toInt + p6.toInt ≤ 4) :
    MetFree l y_8 (head1 (Jvm.Cond.code y_8 prog_99_method_42_code 6 none :: ws) ({ frames := 1, cells := 0, slots := 0, locals := 18 } : Room)) (fun a U => a = #[(.ref a1), (.ref a2), (.int p3), (.ref a4), (.int p5), (.int p6)] ∧ Z.Warmed39 U.vm ∧ U.heap = h0) (fun _ _ _ _ _ => True) (fun _ U o U' => ∃ v L, o = .returned v ∧ Q20 Z a0 a1 a2 p3 a4 p5 p6 t f u t2 f2 u2 h0 n0 v U'.heap L ∧ FrameEnd U o U' L ({ frames := 1, cells := 0, slots := 0, locals := 18 } : Room).cells ({ frames := 1, cells := 0, slots := 0, locals := 18 } : Room).slots) := by
  refine MetFree.of_bodySF (plainFor_of_name pn_20) hisR ?_
  intro p e s m args below meth c s₁ Bd hml0 hP hK
  obtain ⟨rfl, hZ, hh⟩ := hP
  have hx := Bd.exec
  have hby := Bd.bytes
  have hml : c.maxLocals = 6 := hml0
  have hown : s.vm.findClass "com/example/slackline/slackline/replay/Steps" = some m.cls := findClass_of_methodNamed Bd.named
  have hnm := (name_of_methodNamed Bd.named Bd.method).1
  have X0 : Stand p l e ({ frames := 1, cells := 0, slots := 0, locals := 18 } : Room) s m #[(.ref a1), (.ref a2), (.int p3), (.ref a4), (.int p5), (.int p6)] below meth c s₁ [] 0 0 := Stand.of_body Bd
  have e0 : s₁.heap = h0 := by rw [← hh, Bd.state]; rfl
  have N0 := Fr.nil n0
  have H : ∀ (k : Nat) {i : Nat} {r : Instr × Nat}, dt20[k]? = some (i, r) → decode c.code i = .ok r := fun _ i r q => hb hby (dk20 (i, r) (List.mem_of_getElem? q))
  have KN0 : KN n0 h0 h0 := KN.refl n0 h0
  have PP0 : Pres Z a0 h0 h0 [] := Pres.refl Z a0 h0
  obtain ⟨F0, hF0⟩ : ∃ F : JFrame, F = entryFrame m #[(.ref a1), (.ref a2), (.int p3), (.ref a4), (.int p5), (.int p6)] 6 := ⟨_, rfl⟩
  have pre0 : ∀ t, Steps p.tables e below (s₁.setTop F0) t → Steps p.tables e below (s₁.setTop (entryFrame m #[(.ref a1), (.ref a2), (.int p3), (.ref a4), (.int p5), (.int p6)] 6)) t := fun t k => hF0 ▸ k
  have go0 : Go p e below s₁ F0 s₁ (mkF m 0 #[vr a1, vr a2, vi p3, vr a4, vi p5, vi p6] []) := fun t k => castTop (hF0.trans (ef_20 m a1 a2 p3 a4 p5 p6)) k
  have go1 := (s_aloadN go0 X0 hx (H 0 rfl) rfl rfl)
  obtain ⟨T2, X2, e2, go2⟩ := gF go1 X0 hx hZ hown (own_w hw 173 rfl) e0 F1.2.1 (H 1 rfl)
  have go3 := (s_aloadN (s_iloadN go2 X2 hx (H 2 rfl) rfl) X2 hx (H 3 rfl) rfl rfl)
  obtain ⟨T4, X4, e4, go4⟩ := gF go3 X2 hx hZ hown (own_w hw 173 rfl) e2 F12.2.1 (H 4 rfl)
  have go5 := (s_iload (s_iload go4 X4 hx (H 5 rfl) rfl) X4 hx (H 6 rfl) rfl)
  have na6 := n_cp (nr p3) (nr p6) nl4 (by omega)
  have nb6 := n_cp (nr p5) (nr p6) nl4 (by omega)
  obtain ⟨T6, h6, L6, X6, e6, N6, Kc6, Vc6, st6⟩ := cpJ X4 hx hZ hown (own_w hw 224 rfl) (own_w hw 227 rfl) (own_w hw 225 rfl) (own_w hw 226 rfl) e4 L1 L12 na6.1 nb6.1 na6.2.1 na6.2.2 nb6.2.2 N0 g1 (pc := 13) (Ls := #[vr a1, vr a2, vi p3, vr a4, vi p5, vi p6]) (rest := []) (by rw [hml]; rfl) (H 7 rfl) (by decide) (W := 0) (Nat.le_of_eq rfl) (by decide)
  have P7 : Pres Z a0 _ _ _ := Pres.cpJ L12 Kc6 Vc6
  have KN7 := KN0.trans (KN.kp Kc6 Z0 (own_all1 g1))
  have Z7 := Nat.le_trans Z0 P7.1
  have go8 := glm go5 st6
  have F9 := P7.fe F2 (nS rfl)
  have go10 := (s_aloadN go8 X6 hx (H 8 rfl) rfl rfl)
  obtain ⟨T11, X11, e11, go11⟩ := gF go10 X6 hx hZ hown (own_w hw 228 rfl) e6 F9.2.1 (H 9 rfl)
  have F12 := P7.fe F22 (nS rfl)
  have go13 := (s_aloadN (s_iloadN go11 X11 hx (H 10 rfl) rfl) X11 hx (H 11 rfl) rfl rfl)
  obtain ⟨T14, X14, e14, go14⟩ := gF go13 X11 hx hZ hown (own_w hw 228 rfl) e11 F12.2.1 (H 12 rfl)
  have F15 := P7.li L2
  have F16 := P7.li L22
  have go17 := (s_iload (s_iload go14 X14 hx (H 13 rfl) rfl) X14 hx (H 14 rfl) rfl)
  have na18 := n_cp (nr p3) (nr p6) nl4 (by omega)
  have nb18 := n_cp (nr p5) (nr p6) nl4 (by omega)
  obtain ⟨T18, h18, L18, X18, e18, N18, Kc18, Vc18, st18⟩ := cpI X14 hx hZ hown (own_w hw 224 rfl) (own_w hw 227 rfl) (own_w hw 225 rfl) (own_w hw 226 rfl) e14 F15 F16 na18.1 nb18.1 na18.2.1 na18.2.2 nb18.2.2 N6 g2 (pc := 29) (Ls := #[vr a1, vr a2, vi p3, vr a4, vi p5, vi p6]) (rest := []) (by rw [hml]; rfl) (H 15 rfl) (by decide) (W := 0) (Nat.le_of_eq rfl) (by decide)
  have P19 : Pres Z a0 _ _ _ := Pres.cpI F16 Kc18 Vc18
  have KN19 := KN7.trans (KN.kp Kc18 Z7 (own_all1 g2))
  have Z19 := Nat.le_trans Z7 P19.1
  have go20 := glm go17 st18
  have U21 := P7.trans P19
  have F22 := U21.fe F3 (nS rfl)
  have go23 := (s_aloadN go20 X18 hx (H 16 rfl) rfl rfl)
  obtain ⟨T24, X24, e24, go24⟩ := gF go23 X18 hx hZ hown (own_w hw 229 rfl) e18 F22.2.1 (H 17 rfl)
  have F25 := U21.fe Fk (nS rfl)
  have go26 := (s_aloadN (s_iloadN go24 X24 hx (H 18 rfl) rfl) X24 hx (H 19 rfl) rfl rfl)
  obtain ⟨T27, X27, e27, go27⟩ := gF go26 X24 hx hZ hown (own_w hw 57 rfl) e24 F25.2.1 (H 20 rfl)
  have F28 := U21.fe F32 (nS rfl)
  have go29 := (s_aloadN (s_imul go27 X27 hx (H 21 rfl)) X27 hx (H 22 rfl) rfl rfl)
  obtain ⟨T30, X30, e30, go30⟩ := gF go29 X27 hx hZ hown (own_w hw 229 rfl) e27 F28.2.1 (H 23 rfl)
  have go31 := (s_aloadN (s_iload go30 X30 hx (H 24 rfl) rfl) X30 hx (H 25 rfl) rfl rfl)
  obtain ⟨T32, X32, e32, go32⟩ := gF go31 X30 hx hZ hown (own_w hw 57 rfl) e30 F25.2.1 (H 26 rfl)
  have go33 := (s_aloadN (s_iload (s_imul go32 X32 hx (H 27 rfl)) X32 hx (H 28 rfl) rfl) X32 hx (H 29 rfl) rfl rfl)
  obtain ⟨T34, X34, e34, go34⟩ := gF go33 X32 hx hZ hown (own_w hw 57 rfl) e32 F25.2.1 (H 30 rfl)
  have F35 := U21.lj L3
  have F36 := U21.lj L32
  have go37 := (s_imul go34 X34 hx (H 31 rfl))
  have na38 := n_cp (n_mul1 (nr p3) nl1) (n_mul1 (nr p6) nl1) nl4 (by omega)
  have nb38 := n_cp (n_mul1 (nr p5) nl1) (n_mul1 (nr p6) nl1) nl4 (by omega)
  obtain ⟨T38, h38, L38, X38, e38, N38, Kc38, Vc38, st38⟩ := cpJ X34 hx hZ hown (own_w hw 224 rfl) (own_w hw 227 rfl) (own_w hw 225 rfl) (own_w hw 226 rfl) e34 F35 F36 na38.1 nb38.1 na38.2.1 na38.2.2 nb38.2.2 N18 g3 (pc := 60) (Ls := #[vr a1, vr a2, vi p3, vr a4, vi p5, vi p6]) (rest := []) (by rw [hml]; rfl) (H 32 rfl) (by decide) (W := 0) (Nat.le_of_eq rfl) (by decide)
  have P39 : Pres Z a0 _ _ _ := Pres.cpJ F36 Kc38 Vc38
  have KN39 := KN19.trans (KN.kp Kc38 Z19 (own_all1 g3))
  have Z39 := Nat.le_trans Z19 P39.1
  have go40 := glm go37 st38
  refine own_f0 (Q := Q20 Z a0 a1 a2 p3 a4 p5 p6 t f u t2 f2 u2 h0 n0) Bd.notSynchronized hx Bd.returns pre0 X38 go40 (H 33 rfl) e38 (by decide) (by decide) ?_
  exact ⟨rfl, N38, KN39, ((P7.trans P19).trans P39)⟩

def dt27 : List (Nat × Instr × Nat) := [(0, .aload_n 0, 1), (1, .getfield 11, 3), (4, .iload_n 1, 1), (5, .aaload, 1), (6, .astore 6, 2), (8, .iload_n 2, 1), (9, .ifCond .ne 79, 3), (12, .iload_n 3, 1), (13, .aload 6, 2), (15, .getfield 36, 3), (18, .if_icmp .ne 70, 3), (21, .iconst 0, 1), (22, .istore 7, 2), (24, .iload 7, 2), (26, .aload_n 0, 1), (27, .getfield 25, 3), (30, .if_icmp .ge 57, 3), (33, .aload 6, 2), (35, .getfield 45, 3), (38, .iload 7, 2), (40, .dup2, 1), (41, .laload, 1), (42, .iload 5, 2), (44, .i2l, 1), (45, .aload 4, 2), (47, .iload 7, 2), (49, .iaload, 1), (50, .i2l, 1), (51, .lmul, 1), (52, .ladd, 1), (53, .lastore, 1), (54, .aload_n 0, 1), (55, .getfield 29, 3), (58, .iload_n 1, 1), (59, .aload_n 0, 1), (60, .getfield 25, 3), (63, .imul, 1), (64, .iload 7, 2), (66, .iadd, 1), (67, .dup2, 1), (68, .laload, 1), (69, .iload 5, 2), (71, .i2l, 1), (72, .aload 4, 2), (74, .iload 7, 2), (76, .iaload, 1), (77, .i2l, 1), (78, .lmul, 1), (79, .ladd, 1), (80, .lastore, 1), (81, .iinc 7 1, 3), (84, .goto (-60), 3), (87, .return_, 1), (88, .aload 6, 2), (90, .getfield 33, 3), (93, .astore 7, 2), (95, .iconst 0, 1), (96, .istore 8, 2), (98, .iload 8, 2), (100, .aload_n 0, 1), (101, .getfield 25, 3), (104, .if_icmp .ge 122, 3), (107, .iload 5, 2), (109, .i2l, 1), (110, .aload 4, 2), (112, .iload 8, 2), (114, .iaload, 1), (115, .i2l, 1), (116, .lmul, 1), (117, .lstore 9, 2), (119, .aload 6, 2), (121, .getfield 45, 3), (124, .iload 8, 2), (126, .laload, 1), (127, .lstore 11, 2), (129, .aload_n 0, 1), (130, .getfield 29, 3), (133, .iload_n 1, 1), (134, .aload_n 0, 1), (135, .getfield 25, 3), (138, .imul, 1), (139, .iload 8, 2), (141, .iadd, 1), (142, .laload, 1), (143, .lstore 13, 2), (145, .iload_n 2, 1), (146, .aload_n 0, 1), (147, .getfield 25, 3), (150, .imul, 1), (151, .iload 8, 2), (153, .iadd, 1), (154, .istore 15, 2), (156, .iload 15, 2), (158, .iload_n 3, 1), (159, .aload_n 0, 1), (160, .getfield 25, 3), (163, .imul, 1), (164, .if_icmp .ge 40, 3), (167, .aload 7, 2), (169, .iload 15, 2), (171, .dup2, 1), (172, .laload, 1), (173, .lload 9, 2), (175, .ladd, 1), (176, .lastore, 1), (177, .lload 13, 2), (179, .aload 7, 2), (181, .iload 15, 2), (183, .laload, 1), (184, .lload 11, 2), (186, .ladd, 1), (187, .invokestatic 39, 3), (190, .lstore 13, 2), (192, .iload 15, 2), (194, .aload_n 0, 1), (195, .getfield 25, 3), (198, .iadd, 1), (199, .istore 15, 2), (201, .goto (-45), 3), (204, .aload_n 0, 1), (205, .getfield 29, 3), (208, .iload_n 1, 1), (209, .aload_n 0, 1), (210, .getfield 25, 3), (213, .imul, 1), (214, .iload 8, 2), (216, .iadd, 1), (217, .lload 13, 2), (219, .lastore, 1), (220, .iinc 8 1, 3), (223, .goto (-125), 3), (226, .aload 6, 2), (228, .dup, 1), (229, .getfield 15, 3), (232, .iload 5, 2), (234, .ifCond .ge 7, 3), (241, .iconst 0, 1), (242, .ior, 1), (243, .putfield 15, 3), (246, .return_, 1)]
theorem dk27 : ∀ x ∈ dt27, decode prog_99_method_33_code x.1 = .ok x.2 := by decide +kernel
theorem pn_27 : plainName "com/example/slackline/slackline/replay/Steps" = true := by first | (simp [plainName, overriddenIn]; done) | decide +kernel
theorem pd27_0 : parseMethodDescriptor "(JJ)J" = some ⟨[.long, .long], some .long⟩ := by decide +kernel
theorem ef_27 (m : MethodId) (x0 : Addr) (x1 : Int32) (x2 : Int32) (x3 : Int32) (x4 : Addr) : entryFrame m #[(.ref x0), (.int x1), (.int x2), (.int x3), (.ref x4), (.int 1)] 16 = mkF m 0 #[vr x0, vi x1, vi x2, vi x3, vr x4, vi 1, .unset, .unset, .unset, .unset, .unset, .unset, .unset, .unset, .unset, .unset] [] := by first | (simp [entryFrame, mkF, argsToLocals, Value.category]; done) | rfl
def Q27 (Z : State) (a0 : Array Value) (a1 : Addr) (p2 : Int32) (p3 : Int32) (p4 : Int32) (a5 : Addr) (oA : Addr) (vs : List Value) (oP : Addr) (cx : Addr) (u : Addr) (sx : Addr) (sz : Int32) (ph : Int32) (h0 : Heap) (n0 : Nat) (v : Option Value) (h : Heap) (L : List Loc) : Prop := v = none ∧ Fr n0 L ∧ KN n0 h0 h ∧ Pres Z a0 h0 h [(cx, "peaksHigh")]
set_option maxRecDepth 65536 in
set_option maxHeartbeats 40000000 in
theorem rm27 (l : Launch) (Z : State) (a0 : Array Value) (hw : ∀ d ∈ tables_1, d.before a0 Z = true) (ws : List Jvm.Cond) (a1 : Addr) (p2 : Int32) (p3 : Int32) (p4 : Int32) (a5 : Addr) (oA : Addr) (vs : List Value) (oP : Addr) (cx : Addr) (u : Addr) (sx : Addr) (sz : Int32) (ph : Int32) (h0 : Heap) (n0 : Nat) (Z0 : n0 ≤ h0.size) (F1 : FE Z a0 h0 a1 nSt "chunks" dCh (.ref oA)) (R1 : RA Z h0 oA vs) (F2 : FE Z a0 h0 a1 nSt "kinds" "I" (.int 1)) (F3 : FE Z a0 h0 a1 nSt "peaks" "[J" (.ref oP)) (L1 : LJ Z h0 oP (4 : Int32)) (L2 : LI Z h0 a5 (1 : Int32)) (hc : 0 ≤ p2.toInt ∧ p2.toInt < 4) (hf : 0 ≤ p3.toInt ∧ p3.toInt < p4.toInt ∧ p4.toInt ≤ 4) (hat : vs[(p2).toNatClampNeg]? = some (.ref cx)) (F4 : FE Z a0 h0 cx nCh "inUse" "[J" (.ref u)) (L3 : LJ Z h0 u (4 : Int32)) (F5 : FE Z a0 h0 cx nCh "shared" "[J" (.ref sx)) (L4 : LJ Z h0 sx (1 : Int32)) (F6 : FE Z a0 h0 cx nCh "size" "I" (.int sz)) (F7 : FE Z a0 h0 cx nCh "peaksHigh" "Z" (.int ph)) (g1 : n0 ≤ oP) (g2 : n0 ≤ cx) (g3 : n0 ≤ u) (g4 : n0 ≤ sx) :
    MetFree l y_9 (head1 (Jvm.Cond.code y_9 prog_99_method_33_code 16 none :: ws) ({ frames := 1, cells := 0, slots := 0, locals := 15 } : Room)) (fun a U => a = #[(.ref a1), (.int p2), (.int p3), (.int p4), (.ref a5), (.int 1)] ∧ Z.Warmed39 U.vm ∧ U.heap = h0) (fun _ _ _ _ _ => True) (fun _ U o U' => ∃ v L, o = .returned v ∧ Q27 Z a0 a1 p2 p3 p4 a5 oA vs oP cx u sx sz ph h0 n0 v U'.heap L ∧ FrameEnd U o U' L ({ frames := 1, cells := 0, slots := 0, locals := 15 } : Room).cells ({ frames := 1, cells := 0, slots := 0, locals := 15 } : Room).slots) := by
  refine MetFree.of_bodySF (plainFor_of_name pn_27) hisR ?_
  intro p e s m args below meth c s₁ Bd hml0 hP hK
  obtain ⟨rfl, hZ, hh⟩ := hP
  have hx := Bd.exec
  have hby := Bd.bytes
  have hml : c.maxLocals = 16 := hml0
  have hown : s.vm.findClass "com/example/slackline/slackline/replay/Steps" = some m.cls := findClass_of_methodNamed Bd.named
  have hnm := (name_of_methodNamed Bd.named Bd.method).1
  have X0 : Stand p l e ({ frames := 1, cells := 0, slots := 0, locals := 15 } : Room) s m #[(.ref a1), (.int p2), (.int p3), (.int p4), (.ref a5), (.int 1)] below meth c s₁ [] 0 0 := Stand.of_body Bd
  have e0 : s₁.heap = h0 := by rw [← hh, Bd.state]; rfl
  have N0 := Fr.nil n0
  have H : ∀ (k : Nat) {i : Nat} {r : Instr × Nat}, dt27[k]? = some (i, r) → decode c.code i = .ok r := fun _ i r q => hb hby (dk27 (i, r) (List.mem_of_getElem? q))
  have KN0 : KN n0 h0 h0 := KN.refl n0 h0
  have PP0 : Pres Z a0 h0 h0 [] := Pres.refl Z a0 h0
  obtain ⟨F0, hF0⟩ : ∃ F : JFrame, F = entryFrame m #[(.ref a1), (.int p2), (.int p3), (.int p4), (.ref a5), (.int 1)] 16 := ⟨_, rfl⟩
  have pre0 : ∀ t, Steps p.tables e below (s₁.setTop F0) t → Steps p.tables e below (s₁.setTop (entryFrame m #[(.ref a1), (.int p2), (.int p3), (.int p4), (.ref a5), (.int 1)] 16)) t := fun t k => hF0 ▸ k
  have go0 : Go p e below s₁ F0 s₁ (mkF m 0 #[vr a1, vi p2, vi p3, vi p4, vr a5, vi 1, .unset, .unset, .unset, .unset, .unset, .unset, .unset, .unset, .unset, .unset] []) := fun t k => castTop (hF0.trans (ef_27 m a1 p2 p3 p4 a5)) k
  have go1 := (s_aloadN go0 X0 hx (H 0 rfl) rfl rfl)
  obtain ⟨T2, X2, e2, go2⟩ := gF go1 X0 hx hZ hown (own_w hw 48 rfl) e0 F1.2.1 (H 1 rfl)
  have go3 := (s_iloadN go2 X2 hx (H 2 rfl) rfl)
  obtain ⟨cl4, Ar4, hin4, hat4⟩ := RA.at R1 (j := p2) (n_in (nr p2) nl4 (by omega)) hat
  have go5 := (s_iloadN (s_astore (s_aaload go3 X2 hx hZ e2 Ar4 rfl hin4 hat4 (H 3 rfl)) X2 hx (H 4 rfl) rfl (L' := #[vr a1, vi p2, vi p3, vi p4, vr a5, vi 1, vr cx, .unset, .unset, .unset, .unset, .unset, .unset, .unset, .unset, .unset]) rfl) X2 hx (H 5 rfl) rfl)
  by_cases hc9_6 : p3 = 0
  ·have ihc9_6 := n_eqI (nr p3) nl0 hc9_6
   have go7 := (s_aload (s_iloadN (s_ifNo go5 X2 hx (H 6 rfl) ((if0 _ _).trans (teq hc9_6).2)) X2 hx (H 7 rfl) rfl) X2 hx (H 8 rfl) rfl rfl)
   obtain ⟨T8, X8, e8, go8⟩ := gF go7 X2 hx hZ hown (own_w hw 112 rfl) e2 F6.2.1 (H 9 rfl)
   by_cases hc18_9 : p4 = sz
   ·have ihc18_9 := n_eqI (nr p4) (nr sz) hc18_9
    have go10 := (s_aloadN (s_iload (s_istore (s_iconst (s_icmpNo go8 X8 hx (H 10 rfl) (teq hc18_9).2) X8 hx (H 11 rfl) (v := 0) rfl) X8 hx (H 12 rfl) (L' := #[vr a1, vi p2, vi p3, vi p4, vr a5, vi 1, vr cx, vi 0, .unset, .unset, .unset, .unset, .unset, .unset, .unset, .unset]) rfl) X8 hx (H 13 rfl) rfl) X8 hx (H 14 rfl) rfl rfl)
    obtain ⟨T11, X11, e11, go11⟩ := gF go10 X8 hx hZ hown (own_w hw 57 rfl) e8 F2.2.1 (H 15 rfl)
    have go12 := (s_aload (s_icmpNo go11 X11 hx (H 16 rfl) (tlt (by decide : (0 : Int32) < 1)).2.1) X11 hx (H 17 rfl) rfl rfl)
    obtain ⟨T13, X13, e13, go13⟩ := gF go12 X11 hx hZ hown (own_w hw 260 rfl) e11 F5.2.1 (H 18 rfl)
    have go14 := (s_dup2 (s_iload go13 X13 hx (H 19 rfl) rfl) X13 hx (H 20 rfl) rfl rfl)
    obtain ⟨x15, go15⟩ := lJ go14 X13 hx hZ e13 L4 ⟨by decide, by decide⟩ (H 21 rfl)
    have go16 := (s_iload (s_aload (s_i2lE (s_iload go15 X13 hx (H 22 rfl) rfl) X13 hx (H 23 rfl) (v := 1) rfl) X13 hx (H 24 rfl) rfl rfl) X13 hx (H 25 rfl) rfl)
    obtain ⟨x17, go17⟩ := lI go16 X13 hx hZ e13 L2 ⟨by decide, by decide⟩ (H 26 rfl)
    have go18 := (s_ladd (s_lmul (s_i2l go17 X13 hx (H 27 rfl)) X13 hx (H 28 rfl)) X13 hx (H 29 rfl))
    obtain ⟨T19, h19, X19, e19, W19, go19⟩ := sJ go18 X13 hx hZ e13 L4 ⟨by decide, by decide⟩ (H 30 rfl)
    have P20 : Pres Z a0 _ _ _ := Pres.wrJ L4 W19
    have KN20 := KN0.trans (KN.wr W19 g4)
    have Z20 := Nat.le_trans Z0 P20.1
    have N19 := Fr.snoc X19 N0 g4
    have F21 := P20.fe F3 (nS rfl)
    have go22 := (s_aloadN go19 X19 hx (H 31 rfl) rfl rfl)
    obtain ⟨T23, X23, e23, go23⟩ := gF go22 X19 hx hZ hown (own_w hw 117 rfl) e19 F21.2.1 (H 32 rfl)
    have F24 := P20.fe F2 (nS rfl)
    have go25 := (s_aloadN (s_iloadN go23 X23 hx (H 33 rfl) rfl) X23 hx (H 34 rfl) rfl rfl)
    obtain ⟨T26, X26, e26, go26⟩ := gF go25 X23 hx hZ hown (own_w hw 57 rfl) e23 F24.2.1 (H 35 rfl)
    have F27 := P20.lj L1
    have go28 := (s_dup2 (s_iadd (s_iload (s_imul go26 X26 hx (H 36 rfl)) X26 hx (H 37 rfl) rfl) X26 hx (H 38 rfl)) X26 hx (H 39 rfl) rfl rfl)
    obtain ⟨x29, go29⟩ := lJ go28 X26 hx hZ e26 F27 (n_in (n_add (n_mul1 (nr p2) nl1) nl0 (by omega)) nl4 (by omega)) (H 40 rfl)
    have F30 := P20.li L2
    have go31 := (s_iload (s_aload (s_i2lE (s_iload go29 X26 hx (H 41 rfl) rfl) X26 hx (H 42 rfl) (v := 1) rfl) X26 hx (H 43 rfl) rfl rfl) X26 hx (H 44 rfl) rfl)
    obtain ⟨x32, go32⟩ := lI go31 X26 hx hZ e26 F30 ⟨by decide, by decide⟩ (H 45 rfl)
    have go33 := (s_ladd (s_lmul (s_i2l go32 X26 hx (H 46 rfl)) X26 hx (H 47 rfl)) X26 hx (H 48 rfl))
    obtain ⟨T34, h34, X34, e34, W34, go34⟩ := sJ go33 X26 hx hZ e26 F27 (n_in (n_add (n_mul1 (nr p2) nl1) nl0 (by omega)) nl4 (by omega)) (H 49 rfl)
    have P35 : Pres Z a0 _ _ _ := Pres.wrJ F27 W34
    have KN35 := KN20.trans (KN.wr W34 g1)
    have Z35 := Nat.le_trans Z20 P35.1
    have N34 := Fr.snoc X34 N19 g1
    have F36 := P35.fe F24 (nS rfl)
    have go37 := (s_aloadN (s_iload (s_goto (s_iinc go34 X34 hx (H 50 rfl) rfl (L' := #[vr a1, vi p2, vi p3, vi p4, vr a5, vi 1, vr cx, vi 1, .unset, .unset, .unset, .unset, .unset, .unset, .unset, .unset]) rfl) X34 hx (H 51 rfl) (pc' := 24) rfl (by decide)) X34 hx (H 13 rfl) rfl) X34 hx (H 14 rfl) rfl rfl)
    obtain ⟨T38, X38, e38, go38⟩ := gF go37 X34 hx hZ hown (own_w hw 57 rfl) e34 F36.2.1 (H 15 rfl)
    have go39 := (s_icmpYes go38 X38 hx (H 16 rfl) (pc' := 87) rfl (by decide) (flt (by decide : ¬ ((1 : Int32) < 1))).2.1)
    refine own_f0 (Q := Q27 Z a0 a1 p2 p3 p4 a5 oA vs oP cx u sx sz ph h0 n0) Bd.notSynchronized hx Bd.returns pre0 X38 go39 (H 52 rfl) e38 (by decide) (by decide) ?_
    exact ⟨rfl, N34, KN35, ((P20.trans P35).nil_mono _)⟩
   have ihc18_9 := n_neI (nr p4) (nr sz) hc18_9
   have go40 := (s_aload (s_icmpYes go8 X8 hx (H 10 rfl) (pc' := 88) rfl (by decide) (feq hc18_9).2) X8 hx (H 53 rfl) rfl rfl)
   obtain ⟨T41, X41, e41, go41⟩ := gF go40 X8 hx hZ hown (own_w hw 229 rfl) e8 F4.2.1 (H 54 rfl)
   have go42 := (s_aloadN (s_iload (s_istore (s_iconst (s_astore go41 X41 hx (H 55 rfl) rfl (L' := #[vr a1, vi p2, vi p3, vi p4, vr a5, vi 1, vr cx, vr u, .unset, .unset, .unset, .unset, .unset, .unset, .unset, .unset]) rfl) X41 hx (H 56 rfl) (v := 0) rfl) X41 hx (H 57 rfl) (L' := #[vr a1, vi p2, vi p3, vi p4, vr a5, vi 1, vr cx, vr u, vi 0, .unset, .unset, .unset, .unset, .unset, .unset, .unset]) rfl) X41 hx (H 58 rfl) rfl) X41 hx (H 59 rfl) rfl rfl)
   obtain ⟨T43, X43, e43, go43⟩ := gF go42 X41 hx hZ hown (own_w hw 57 rfl) e41 F2.2.1 (H 60 rfl)
   have go44 := (s_iload (s_aload (s_i2lE (s_iload (s_icmpNo go43 X43 hx (H 61 rfl) (tlt (by decide : (0 : Int32) < 1)).2.1) X43 hx (H 62 rfl) rfl) X43 hx (H 63 rfl) (v := 1) rfl) X43 hx (H 64 rfl) rfl rfl) X43 hx (H 65 rfl) rfl)
   obtain ⟨x45, go45⟩ := lI go44 X43 hx hZ e43 L2 ⟨by decide, by decide⟩ (H 66 rfl)
   have go46 := (s_aload (s_lstore (s_lmul (s_i2l go45 X43 hx (H 67 rfl)) X43 hx (H 68 rfl)) X43 hx (H 69 rfl) (L' := #[vr a1, vi p2, vi p3, vi p4, vr a5, vi 1, vr cx, vr u, vi 0, vj ((1 : Int64) * (x45.toInt64)), .second, .unset, .unset, .unset, .unset, .unset]) rfl) X43 hx (H 70 rfl) rfl rfl)
   obtain ⟨T47, X47, e47, go47⟩ := gF go46 X43 hx hZ hown (own_w hw 260 rfl) e43 F5.2.1 (H 71 rfl)
   have go48 := (s_iload go47 X47 hx (H 72 rfl) rfl)
   obtain ⟨x49, go49⟩ := lJ go48 X47 hx hZ e47 L4 ⟨by decide, by decide⟩ (H 73 rfl)
   have go50 := (s_aloadN (s_lstore go49 X47 hx (H 74 rfl) (L' := #[vr a1, vi p2, vi p3, vi p4, vr a5, vi 1, vr cx, vr u, vi 0, vj ((1 : Int64) * (x45.toInt64)), .second, vj x49, .second, .unset, .unset, .unset]) rfl) X47 hx (H 75 rfl) rfl rfl)
   obtain ⟨T51, X51, e51, go51⟩ := gF go50 X47 hx hZ hown (own_w hw 117 rfl) e47 F3.2.1 (H 76 rfl)
   have go52 := (s_aloadN (s_iloadN go51 X51 hx (H 77 rfl) rfl) X51 hx (H 78 rfl) rfl rfl)
   obtain ⟨T53, X53, e53, go53⟩ := gF go52 X51 hx hZ hown (own_w hw 57 rfl) e51 F2.2.1 (H 79 rfl)
   have go54 := (s_iadd (s_iload (s_imul go53 X53 hx (H 80 rfl)) X53 hx (H 81 rfl) rfl) X53 hx (H 82 rfl))
   obtain ⟨x55, go55⟩ := lJ go54 X53 hx hZ e53 L1 (n_in (n_add (n_mul1 (nr p2) nl1) nl0 (by omega)) nl4 (by omega)) (H 83 rfl)
   have go56 := (s_aloadN (s_iloadN (s_lstore go55 X53 hx (H 84 rfl) (L' := #[vr a1, vi p2, vi p3, vi p4, vr a5, vi 1, vr cx, vr u, vi 0, vj ((1 : Int64) * (x45.toInt64)), .second, vj x49, .second, vj x55, .second, .unset]) rfl) X53 hx (H 85 rfl) rfl) X53 hx (H 86 rfl) rfl rfl)
   obtain ⟨T57, X57, e57, go57⟩ := gF go56 X53 hx hZ hown (own_w hw 57 rfl) e53 F2.2.1 (H 87 rfl)
   have go58 := (s_aloadN (s_iloadN (s_iload (s_istore (s_iadd (s_iload (s_imul go57 X57 hx (H 88 rfl)) X57 hx (H 89 rfl) rfl) X57 hx (H 90 rfl)) X57 hx (H 91 rfl) (L' := #[vr a1, vi p2, vi p3, vi p4, vr a5, vi 1, vr cx, vr u, vi 0, vj ((1 : Int64) * (x45.toInt64)), .second, vj x49, .second, vj x55, .second, vi ((p3 * 1) + 0)]) rfl) X57 hx (H 92 rfl) rfl) X57 hx (H 93 rfl) rfl) X57 hx (H 94 rfl) rfl rfl)
   obtain ⟨T59, X59, e59, go59⟩ := gF go58 X57 hx hZ hown (own_w hw 57 rfl) e57 F2.2.1 (H 95 rfl)
   have go60 := (s_imul go59 X59 hx (H 96 rfl))
   by_cases hc164_61 : ((p3 * 1) + 0) < (p4 * 1)
   ·have ihc164_61 := n_ltI (n_add (n_mul1 (nr p3) nl1) nl0 (by omega)) (n_mul1 (nr p4) nl1) hc164_61
    have go62 := (s_dup2 (s_iload (s_aload (s_icmpNo go60 X59 hx (H 97 rfl) (tlt hc164_61).2.1) X59 hx (H 98 rfl) rfl rfl) X59 hx (H 99 rfl) rfl) X59 hx (H 100 rfl) rfl rfl)
    obtain ⟨x63, go63⟩ := lJ go62 X59 hx hZ e59 L3 (n_in (n_add (n_mul1 (nr p3) nl1) nl0 (by omega)) nl4 (by omega)) (H 101 rfl)
    have go64 := (s_ladd (s_lload go63 X59 hx (H 102 rfl) rfl) X59 hx (H 103 rfl))
    obtain ⟨T65, h65, X65, e65, W65, go65⟩ := sJ go64 X59 hx hZ e59 L3 (n_in (n_add (n_mul1 (nr p3) nl1) nl0 (by omega)) nl4 (by omega)) (H 104 rfl)
    have P66 : Pres Z a0 _ _ _ := Pres.wrJ L3 W65
    have KN66 := KN0.trans (KN.wr W65 g3)
    have Z66 := Nat.le_trans Z0 P66.1
    have N65 := Fr.snoc X65 N0 g3
    have F67 := P66.lj L3
    have go68 := (s_iload (s_aload (s_lload go65 X65 hx (H 105 rfl) rfl) X65 hx (H 106 rfl) rfl rfl) X65 hx (H 107 rfl) rfl)
    obtain ⟨x69, go69⟩ := lJ go68 X65 hx hZ e65 F67 (n_in (n_add (n_mul1 (nr p3) nl1) nl0 (by omega)) nl4 (by omega)) (H 108 rfl)
    have go70 := (s_ladd (s_lload go69 X65 hx (H 109 rfl) rfl) X65 hx (H 110 rfl))
    obtain ⟨_, _, ⟨T71, L71, k71, n71⟩, -, X71, ⟨Lc71, hQ71, l71, y71, z71⟩, g71⟩ := c_s go70 (Jvm.LawKit.callS X65 hx (y := y_1) hown (mvT hZ (own_w hw 268 rfl)) (mvT hZ (own_w hw 7 rfl)) (mvT hZ (own_w hw 4 rfl)) (mvT hZ (own_w hw 8 rfl)) (by decide) (backOf (W := 0) (rm2 l Z a0 hw [] x55 (x69 + x49) h65 n0 Z66 ) hZ (own_w hw 8 rfl) (own_w hw 4 rfl) (by decide) (by decide)) (g := mkF m _ _ _) rfl (by rw [hml]; rfl) (argsL := [(.long x55), (.long (x69 + x49))]) (rest := []) (lenOf pd27_0 rfl) rfl (by show 2 * 0 + _ ≤ _; exact Nat.le_of_eq rfl) (H 111 rfl) (fun _ _ => ⟨rfl, e65, (by decide : 0 + 0 ≤ _), (by decide : 0 + 0 ≤ _)⟩))
    dsimp only [Pt.U, Pt.locs, Pt.cells, Pt.slots] at X71 l71 y71 z71 g71 hQ71
    subst l71 y71 z71
    obtain ⟨rfl, Nq71, eh71⟩ := hQ71
    have N71 := Fr.app N65 Nq71
    have go72 := cr g71
    have F73 := P66.fe F2 (nS rfl)
    have go74 := (s_aloadN (s_iload (s_lstore go72 X71 hx (H 112 rfl) (L' := #[vr a1, vi p2, vi p3, vi p4, vr a5, vi 1, vr cx, vr u, vi 0, vj ((1 : Int64) * (x45.toInt64)), .second, vj x49, .second, vj (f2 x55 (x69 + x49)), .second, vi ((p3 * 1) + 0)]) rfl) X71 hx (H 113 rfl) rfl) X71 hx (H 114 rfl) rfl rfl)
    obtain ⟨T75, X75, e75, go75⟩ := gF go74 X71 hx hZ hown (own_w hw 57 rfl) eh71 F73.2.1 (H 115 rfl)
    have go76 := (s_aloadN (s_iloadN (s_iload (s_goto (s_istore (s_iadd go75 X75 hx (H 116 rfl)) X75 hx (H 117 rfl) (L' := #[vr a1, vi p2, vi p3, vi p4, vr a5, vi 1, vr cx, vr u, vi 0, vj ((1 : Int64) * (x45.toInt64)), .second, vj x49, .second, vj (f2 x55 (x69 + x49)), .second, vi (((p3 * 1) + 0) + 1)]) rfl) X75 hx (H 118 rfl) (pc' := 156) rfl (by decide)) X75 hx (H 92 rfl) rfl) X75 hx (H 93 rfl) rfl) X75 hx (H 94 rfl) rfl rfl)
    obtain ⟨T77, X77, e77, go77⟩ := gF go76 X75 hx hZ hown (own_w hw 57 rfl) e75 F73.2.1 (H 95 rfl)
    have go78 := (s_imul go77 X77 hx (H 96 rfl))
    by_cases hc164_79 : (((p3 * 1) + 0) + 1) < (p4 * 1)
    ·have ihc164_79 := n_ltI (n_add (n_add (n_mul1 (nr p3) nl1) nl0 (by omega)) nl1 (by omega)) (n_mul1 (nr p4) nl1) hc164_79
     have go80 := (s_dup2 (s_iload (s_aload (s_icmpNo go78 X77 hx (H 97 rfl) (tlt hc164_79).2.1) X77 hx (H 98 rfl) rfl rfl) X77 hx (H 99 rfl) rfl) X77 hx (H 100 rfl) rfl rfl)
     obtain ⟨x81, go81⟩ := lJ go80 X77 hx hZ e77 F67 (n_in (n_add (n_add (n_mul1 (nr p3) nl1) nl0 (by omega)) nl1 (by omega)) nl4 (by omega)) (H 101 rfl)
     have go82 := (s_ladd (s_lload go81 X77 hx (H 102 rfl) rfl) X77 hx (H 103 rfl))
     obtain ⟨T83, h83, X83, e83, W83, go83⟩ := sJ go82 X77 hx hZ e77 F67 (n_in (n_add (n_add (n_mul1 (nr p3) nl1) nl0 (by omega)) nl1 (by omega)) nl4 (by omega)) (H 104 rfl)
     have P84 : Pres Z a0 _ _ _ := Pres.wrJ F67 W83
     have KN84 := KN66.trans (KN.wr W83 g3)
     have Z84 := Nat.le_trans Z66 P84.1
     have N83 := Fr.snoc X83 N71 g3
     have F85 := P84.lj F67
     have go86 := (s_iload (s_aload (s_lload go83 X83 hx (H 105 rfl) rfl) X83 hx (H 106 rfl) rfl rfl) X83 hx (H 107 rfl) rfl)
     obtain ⟨x87, go87⟩ := lJ go86 X83 hx hZ e83 F85 (n_in (n_add (n_add (n_mul1 (nr p3) nl1) nl0 (by omega)) nl1 (by omega)) nl4 (by omega)) (H 108 rfl)
     have go88 := (s_ladd (s_lload go87 X83 hx (H 109 rfl) rfl) X83 hx (H 110 rfl))
     obtain ⟨_, _, ⟨T89, L89, k89, n89⟩, -, X89, ⟨Lc89, hQ89, l89, y89, z89⟩, g89⟩ := c_s go88 (Jvm.LawKit.callS X83 hx (y := y_1) hown (mvT hZ (own_w hw 268 rfl)) (mvT hZ (own_w hw 7 rfl)) (mvT hZ (own_w hw 4 rfl)) (mvT hZ (own_w hw 8 rfl)) (by decide) (backOf (W := 0) (rm2 l Z a0 hw [] (f2 x55 (x69 + x49)) (x87 + x49) h83 n0 Z84 ) hZ (own_w hw 8 rfl) (own_w hw 4 rfl) (by decide) (by decide)) (g := mkF m _ _ _) rfl (by rw [hml]; rfl) (argsL := [(.long (f2 x55 (x69 + x49))), (.long (x87 + x49))]) (rest := []) (lenOf pd27_0 rfl) rfl (by show 2 * 0 + _ ≤ _; exact Nat.le_of_eq rfl) (H 111 rfl) (fun _ _ => ⟨rfl, e83, (by decide : 0 + 0 ≤ _), (by decide : 0 + 0 ≤ _)⟩))
     dsimp only [Pt.U, Pt.locs, Pt.cells, Pt.slots] at X89 l89 y89 z89 g89 hQ89
     subst l89 y89 z89
     obtain ⟨rfl, Nq89, eh89⟩ := hQ89
     have N89 := Fr.app N83 Nq89
     have go90 := cr g89
     have F91 := P84.fe F73 (nS rfl)
     have go92 := (s_aloadN (s_iload (s_lstore go90 X89 hx (H 112 rfl) (L' := #[vr a1, vi p2, vi p3, vi p4, vr a5, vi 1, vr cx, vr u, vi 0, vj ((1 : Int64) * (x45.toInt64)), .second, vj x49, .second, vj (f2 (f2 x55 (x69 + x49)) (x87 + x49)), .second, vi (((p3 * 1) + 0) + 1)]) rfl) X89 hx (H 113 rfl) rfl) X89 hx (H 114 rfl) rfl rfl)
     obtain ⟨T93, X93, e93, go93⟩ := gF go92 X89 hx hZ hown (own_w hw 57 rfl) eh89 F91.2.1 (H 115 rfl)
     have go94 := (s_aloadN (s_iloadN (s_iload (s_goto (s_istore (s_iadd go93 X93 hx (H 116 rfl)) X93 hx (H 117 rfl) (L' := #[vr a1, vi p2, vi p3, vi p4, vr a5, vi 1, vr cx, vr u, vi 0, vj ((1 : Int64) * (x45.toInt64)), .second, vj x49, .second, vj (f2 (f2 x55 (x69 + x49)) (x87 + x49)), .second, vi ((((p3 * 1) + 0) + 1) + 1)]) rfl) X93 hx (H 118 rfl) (pc' := 156) rfl (by decide)) X93 hx (H 92 rfl) rfl) X93 hx (H 93 rfl) rfl) X93 hx (H 94 rfl) rfl rfl)
     obtain ⟨T95, X95, e95, go95⟩ := gF go94 X93 hx hZ hown (own_w hw 57 rfl) e93 F91.2.1 (H 95 rfl)
     have go96 := (s_imul go95 X95 hx (H 96 rfl))
     by_cases hc164_97 : ((((p3 * 1) + 0) + 1) + 1) < (p4 * 1)
     ·have ihc164_97 := n_ltI (n_add (n_add (n_add (n_mul1 (nr p3) nl1) nl0 (by omega)) nl1 (by omega)) nl1 (by omega)) (n_mul1 (nr p4) nl1) hc164_97
      have go98 := (s_dup2 (s_iload (s_aload (s_icmpNo go96 X95 hx (H 97 rfl) (tlt hc164_97).2.1) X95 hx (H 98 rfl) rfl rfl) X95 hx (H 99 rfl) rfl) X95 hx (H 100 rfl) rfl rfl)
      obtain ⟨x99, go99⟩ := lJ go98 X95 hx hZ e95 F85 (n_in (n_add (n_add (n_add (n_mul1 (nr p3) nl1) nl0 (by omega)) nl1 (by omega)) nl1 (by omega)) nl4 (by omega)) (H 101 rfl)
      have go100 := (s_ladd (s_lload go99 X95 hx (H 102 rfl) rfl) X95 hx (H 103 rfl))
      obtain ⟨T101, h101, X101, e101, W101, go101⟩ := sJ go100 X95 hx hZ e95 F85 (n_in (n_add (n_add (n_add (n_mul1 (nr p3) nl1) nl0 (by omega)) nl1 (by omega)) nl1 (by omega)) nl4 (by omega)) (H 104 rfl)
      have P102 : Pres Z a0 _ _ _ := Pres.wrJ F85 W101
      have KN102 := KN84.trans (KN.wr W101 g3)
      have Z102 := Nat.le_trans Z84 P102.1
      have N101 := Fr.snoc X101 N89 g3
      have F103 := P102.lj F85
      have go104 := (s_iload (s_aload (s_lload go101 X101 hx (H 105 rfl) rfl) X101 hx (H 106 rfl) rfl rfl) X101 hx (H 107 rfl) rfl)
      obtain ⟨x105, go105⟩ := lJ go104 X101 hx hZ e101 F103 (n_in (n_add (n_add (n_add (n_mul1 (nr p3) nl1) nl0 (by omega)) nl1 (by omega)) nl1 (by omega)) nl4 (by omega)) (H 108 rfl)
      have go106 := (s_ladd (s_lload go105 X101 hx (H 109 rfl) rfl) X101 hx (H 110 rfl))
      obtain ⟨_, _, ⟨T107, L107, k107, n107⟩, -, X107, ⟨Lc107, hQ107, l107, y107, z107⟩, g107⟩ := c_s go106 (Jvm.LawKit.callS X101 hx (y := y_1) hown (mvT hZ (own_w hw 268 rfl)) (mvT hZ (own_w hw 7 rfl)) (mvT hZ (own_w hw 4 rfl)) (mvT hZ (own_w hw 8 rfl)) (by decide) (backOf (W := 0) (rm2 l Z a0 hw [] (f2 (f2 x55 (x69 + x49)) (x87 + x49)) (x105 + x49) h101 n0 Z102 ) hZ (own_w hw 8 rfl) (own_w hw 4 rfl) (by decide) (by decide)) (g := mkF m _ _ _) rfl (by rw [hml]; rfl) (argsL := [(.long (f2 (f2 x55 (x69 + x49)) (x87 + x49))), (.long (x105 + x49))]) (rest := []) (lenOf pd27_0 rfl) rfl (by show 2 * 0 + _ ≤ _; exact Nat.le_of_eq rfl) (H 111 rfl) (fun _ _ => ⟨rfl, e101, (by decide : 0 + 0 ≤ _), (by decide : 0 + 0 ≤ _)⟩))
      dsimp only [Pt.U, Pt.locs, Pt.cells, Pt.slots] at X107 l107 y107 z107 g107 hQ107
      subst l107 y107 z107
      obtain ⟨rfl, Nq107, eh107⟩ := hQ107
      have N107 := Fr.app N101 Nq107
      have go108 := cr g107
      have F109 := P102.fe F91 (nS rfl)
      have go110 := (s_aloadN (s_iload (s_lstore go108 X107 hx (H 112 rfl) (L' := #[vr a1, vi p2, vi p3, vi p4, vr a5, vi 1, vr cx, vr u, vi 0, vj ((1 : Int64) * (x45.toInt64)), .second, vj x49, .second, vj (f2 (f2 (f2 x55 (x69 + x49)) (x87 + x49)) (x105 + x49)), .second, vi ((((p3 * 1) + 0) + 1) + 1)]) rfl) X107 hx (H 113 rfl) rfl) X107 hx (H 114 rfl) rfl rfl)
      obtain ⟨T111, X111, e111, go111⟩ := gF go110 X107 hx hZ hown (own_w hw 57 rfl) eh107 F109.2.1 (H 115 rfl)
      have go112 := (s_aloadN (s_iloadN (s_iload (s_goto (s_istore (s_iadd go111 X111 hx (H 116 rfl)) X111 hx (H 117 rfl) (L' := #[vr a1, vi p2, vi p3, vi p4, vr a5, vi 1, vr cx, vr u, vi 0, vj ((1 : Int64) * (x45.toInt64)), .second, vj x49, .second, vj (f2 (f2 (f2 x55 (x69 + x49)) (x87 + x49)) (x105 + x49)), .second, vi (((((p3 * 1) + 0) + 1) + 1) + 1)]) rfl) X111 hx (H 118 rfl) (pc' := 156) rfl (by decide)) X111 hx (H 92 rfl) rfl) X111 hx (H 93 rfl) rfl) X111 hx (H 94 rfl) rfl rfl)
      obtain ⟨T113, X113, e113, go113⟩ := gF go112 X111 hx hZ hown (own_w hw 57 rfl) e111 F109.2.1 (H 95 rfl)
      have go114 := (s_imul go113 X113 hx (H 96 rfl))
      by_cases hc164_115 : (((((p3 * 1) + 0) + 1) + 1) + 1) < (p4 * 1)
      ·have ihc164_115 := n_ltI (n_add (n_add (n_add (n_add (n_mul1 (nr p3) nl1) nl0 (by omega)) nl1 (by omega)) nl1 (by omega)) nl1 (by omega)) (n_mul1 (nr p4) nl1) hc164_115
       have go116 := (s_dup2 (s_iload (s_aload (s_icmpNo go114 X113 hx (H 97 rfl) (tlt hc164_115).2.1) X113 hx (H 98 rfl) rfl rfl) X113 hx (H 99 rfl) rfl) X113 hx (H 100 rfl) rfl rfl)
       obtain ⟨x117, go117⟩ := lJ go116 X113 hx hZ e113 F103 (n_in (n_add (n_add (n_add (n_add (n_mul1 (nr p3) nl1) nl0 (by omega)) nl1 (by omega)) nl1 (by omega)) nl1 (by omega)) nl4 (by omega)) (H 101 rfl)
       have go118 := (s_ladd (s_lload go117 X113 hx (H 102 rfl) rfl) X113 hx (H 103 rfl))
       obtain ⟨T119, h119, X119, e119, W119, go119⟩ := sJ go118 X113 hx hZ e113 F103 (n_in (n_add (n_add (n_add (n_add (n_mul1 (nr p3) nl1) nl0 (by omega)) nl1 (by omega)) nl1 (by omega)) nl1 (by omega)) nl4 (by omega)) (H 104 rfl)
       have P120 : Pres Z a0 _ _ _ := Pres.wrJ F103 W119
       have KN120 := KN102.trans (KN.wr W119 g3)
       have Z120 := Nat.le_trans Z102 P120.1
       have N119 := Fr.snoc X119 N107 g3
       have F121 := P120.lj F103
       have go122 := (s_iload (s_aload (s_lload go119 X119 hx (H 105 rfl) rfl) X119 hx (H 106 rfl) rfl rfl) X119 hx (H 107 rfl) rfl)
       obtain ⟨x123, go123⟩ := lJ go122 X119 hx hZ e119 F121 (n_in (n_add (n_add (n_add (n_add (n_mul1 (nr p3) nl1) nl0 (by omega)) nl1 (by omega)) nl1 (by omega)) nl1 (by omega)) nl4 (by omega)) (H 108 rfl)
       have go124 := (s_ladd (s_lload go123 X119 hx (H 109 rfl) rfl) X119 hx (H 110 rfl))
       obtain ⟨_, _, ⟨T125, L125, k125, n125⟩, -, X125, ⟨Lc125, hQ125, l125, y125, z125⟩, g125⟩ := c_s go124 (Jvm.LawKit.callS X119 hx (y := y_1) hown (mvT hZ (own_w hw 268 rfl)) (mvT hZ (own_w hw 7 rfl)) (mvT hZ (own_w hw 4 rfl)) (mvT hZ (own_w hw 8 rfl)) (by decide) (backOf (W := 0) (rm2 l Z a0 hw [] (f2 (f2 (f2 x55 (x69 + x49)) (x87 + x49)) (x105 + x49)) (x123 + x49) h119 n0 Z120 ) hZ (own_w hw 8 rfl) (own_w hw 4 rfl) (by decide) (by decide)) (g := mkF m _ _ _) rfl (by rw [hml]; rfl) (argsL := [(.long (f2 (f2 (f2 x55 (x69 + x49)) (x87 + x49)) (x105 + x49))), (.long (x123 + x49))]) (rest := []) (lenOf pd27_0 rfl) rfl (by show 2 * 0 + _ ≤ _; exact Nat.le_of_eq rfl) (H 111 rfl) (fun _ _ => ⟨rfl, e119, (by decide : 0 + 0 ≤ _), (by decide : 0 + 0 ≤ _)⟩))
       dsimp only [Pt.U, Pt.locs, Pt.cells, Pt.slots] at X125 l125 y125 z125 g125 hQ125
       subst l125 y125 z125
       obtain ⟨rfl, Nq125, eh125⟩ := hQ125
       have N125 := Fr.app N119 Nq125
       have go126 := cr g125
       have F127 := P120.fe F109 (nS rfl)
       have go128 := (s_aloadN (s_iload (s_lstore go126 X125 hx (H 112 rfl) (L' := #[vr a1, vi p2, vi p3, vi p4, vr a5, vi 1, vr cx, vr u, vi 0, vj ((1 : Int64) * (x45.toInt64)), .second, vj x49, .second, vj (f2 (f2 (f2 (f2 x55 (x69 + x49)) (x87 + x49)) (x105 + x49)) (x123 + x49)), .second, vi (((((p3 * 1) + 0) + 1) + 1) + 1)]) rfl) X125 hx (H 113 rfl) rfl) X125 hx (H 114 rfl) rfl rfl)
       obtain ⟨T129, X129, e129, go129⟩ := gF go128 X125 hx hZ hown (own_w hw 57 rfl) eh125 F127.2.1 (H 115 rfl)
       have go130 := (s_aloadN (s_iloadN (s_iload (s_goto (s_istore (s_iadd go129 X129 hx (H 116 rfl)) X129 hx (H 117 rfl) (L' := #[vr a1, vi p2, vi p3, vi p4, vr a5, vi 1, vr cx, vr u, vi 0, vj ((1 : Int64) * (x45.toInt64)), .second, vj x49, .second, vj (f2 (f2 (f2 (f2 x55 (x69 + x49)) (x87 + x49)) (x105 + x49)) (x123 + x49)), .second, vi ((((((p3 * 1) + 0) + 1) + 1) + 1) + 1)]) rfl) X129 hx (H 118 rfl) (pc' := 156) rfl (by decide)) X129 hx (H 92 rfl) rfl) X129 hx (H 93 rfl) rfl) X129 hx (H 94 rfl) rfl rfl)
       obtain ⟨T131, X131, e131, go131⟩ := gF go130 X129 hx hZ hown (own_w hw 57 rfl) e129 F127.2.1 (H 95 rfl)
       have go133 := (s_imul go131 X131 hx (H 96 rfl))
       have hd132 : ¬ (((((((p3 * 1) + 0) + 1) + 1) + 1) + 1) < (p4 * 1)) := n_nlt (n_add (n_add (n_add (n_add (n_add (n_mul1 (nr p3) nl1) nl0 (by omega)) nl1 (by omega)) nl1 (by omega)) nl1 (by omega)) nl1 (by omega)) (n_mul1 (nr p4) nl1) (by omega)
       have U134 := P66.trans (P84.trans (P102.trans P120))
       have F135 := U134.fe F3 (nS rfl)
       have go136 := (s_aloadN (s_icmpYes go133 X131 hx (H 97 rfl) (pc' := 204) rfl (by decide) (flt hd132).2.1) X131 hx (H 119 rfl) rfl rfl)
       obtain ⟨T137, X137, e137, go137⟩ := gF go136 X131 hx hZ hown (own_w hw 117 rfl) e131 F135.2.1 (H 120 rfl)
       have go138 := (s_aloadN (s_iloadN go137 X137 hx (H 121 rfl) rfl) X137 hx (H 122 rfl) rfl rfl)
       obtain ⟨T139, X139, e139, go139⟩ := gF go138 X137 hx hZ hown (own_w hw 57 rfl) e137 F127.2.1 (H 123 rfl)
       have F140 := U134.lj L1
       have go141 := (s_lload (s_iadd (s_iload (s_imul go139 X139 hx (H 124 rfl)) X139 hx (H 125 rfl) rfl) X139 hx (H 126 rfl)) X139 hx (H 127 rfl) rfl)
       obtain ⟨T142, h142, X142, e142, W142, go142⟩ := sJ go141 X139 hx hZ e139 F140 (n_in (n_add (n_mul1 (nr p2) nl1) nl0 (by omega)) nl4 (by omega)) (H 128 rfl)
       have P143 : Pres Z a0 _ _ _ := Pres.wrJ F140 W142
       have KN143 := KN120.trans (KN.wr W142 g1)
       have Z143 := Nat.le_trans Z120 P143.1
       have N142 := Fr.snoc X142 N125 g1
       have F144 := P143.fe F127 (nS rfl)
       have go145 := (s_aloadN (s_iload (s_goto (s_iinc go142 X142 hx (H 129 rfl) rfl (L' := #[vr a1, vi p2, vi p3, vi p4, vr a5, vi 1, vr cx, vr u, vi 1, vj ((1 : Int64) * (x45.toInt64)), .second, vj x49, .second, vj (f2 (f2 (f2 (f2 x55 (x69 + x49)) (x87 + x49)) (x105 + x49)) (x123 + x49)), .second, vi ((((((p3 * 1) + 0) + 1) + 1) + 1) + 1)]) rfl) X142 hx (H 130 rfl) (pc' := 98) rfl (by decide)) X142 hx (H 58 rfl) rfl) X142 hx (H 59 rfl) rfl rfl)
       obtain ⟨T146, X146, e146, go146⟩ := gF go145 X142 hx hZ hown (own_w hw 57 rfl) e142 F144.2.1 (H 60 rfl)
       have U147 := P66.trans (P84.trans (P102.trans (P120.trans P143)))
       have F148 := U147.fe F7 (nS rfl)
       have go149 := (s_dup (s_aload (s_icmpYes go146 X146 hx (H 61 rfl) (pc' := 226) rfl (by decide) (flt (by decide : ¬ ((1 : Int32) < 1))).2.1) X146 hx (H 131 rfl) rfl rfl) X146 hx (H 132 rfl) rfl)
       obtain ⟨T150, X150, e150, go150⟩ := gF go149 X146 hx hZ hown (own_w hw 261 rfl) e146 F148.2.1 (H 133 rfl)
       have go151 := (s_ior (s_iconst (s_ifYes (s_iload go150 X150 hx (H 134 rfl) rfl) X150 hx (H 135 rfl) (pc' := 241) rfl (by decide) ((if0 _ _).trans (flt (by decide : ¬ ((1 : Int32) < 0))).2.1)) X150 hx (H 136 rfl) (v := 0) rfl) X150 hx (H 137 rfl))
       obtain ⟨T152, h152, X152, e152, W152, go152⟩ := w_2 go151 (putFN X150 hx hZ hown (own_w hw 261 rfl) Via.refl e150 F148.2.1 F148.1 (Or.inl (own_w hw 262 rfl)) (own_w hw 71 rfl) (ty := .boolean) (v' := (.int (nar .boolean (ph ||| (0 : Int32))))) pf_2 rfl (fits_nar_bool _) (g := mkF m _ _ _) rfl rfl (H 138 rfl))
       have Fw152 := F148.self W152
       have P153 : Pres Z a0 _ _ _ := Pres.fIx (by decide) F148 W152 (by decide)
       have KN153 := KN143.trans (KN.wr W152 g2)
       have Z153 := Nat.le_trans Z143 P153.1
       have N152 := Fr.snoc X152 N142 g2
       refine own_f0 (Q := Q27 Z a0 a1 p2 p3 p4 a5 oA vs oP cx u sx sz ph h0 n0) Bd.notSynchronized hx Bd.returns pre0 X152 go152 (H 139 rfl) e152 (by decide) (by decide) ?_
       exact ⟨rfl, N152, KN153, (((((P66.trans P84).trans P102).trans P120).trans P143).trans P153)⟩
      have ihc164_115 := n_nltI (n_add (n_add (n_add (n_add (n_mul1 (nr p3) nl1) nl0 (by omega)) nl1 (by omega)) nl1 (by omega)) nl1 (by omega)) (n_mul1 (nr p4) nl1) hc164_115
      have U154 := P66.trans (P84.trans P102)
      have F155 := U154.fe F3 (nS rfl)
      have go156 := (s_aloadN (s_icmpYes go114 X113 hx (H 97 rfl) (pc' := 204) rfl (by decide) (flt hc164_115).2.1) X113 hx (H 119 rfl) rfl rfl)
      obtain ⟨T157, X157, e157, go157⟩ := gF go156 X113 hx hZ hown (own_w hw 117 rfl) e113 F155.2.1 (H 120 rfl)
      have go158 := (s_aloadN (s_iloadN go157 X157 hx (H 121 rfl) rfl) X157 hx (H 122 rfl) rfl rfl)
      obtain ⟨T159, X159, e159, go159⟩ := gF go158 X157 hx hZ hown (own_w hw 57 rfl) e157 F109.2.1 (H 123 rfl)
      have F160 := U154.lj L1
      have go161 := (s_lload (s_iadd (s_iload (s_imul go159 X159 hx (H 124 rfl)) X159 hx (H 125 rfl) rfl) X159 hx (H 126 rfl)) X159 hx (H 127 rfl) rfl)
      obtain ⟨T162, h162, X162, e162, W162, go162⟩ := sJ go161 X159 hx hZ e159 F160 (n_in (n_add (n_mul1 (nr p2) nl1) nl0 (by omega)) nl4 (by omega)) (H 128 rfl)
      have P163 : Pres Z a0 _ _ _ := Pres.wrJ F160 W162
      have KN163 := KN102.trans (KN.wr W162 g1)
      have Z163 := Nat.le_trans Z102 P163.1
      have N162 := Fr.snoc X162 N107 g1
      have F164 := P163.fe F109 (nS rfl)
      have go165 := (s_aloadN (s_iload (s_goto (s_iinc go162 X162 hx (H 129 rfl) rfl (L' := #[vr a1, vi p2, vi p3, vi p4, vr a5, vi 1, vr cx, vr u, vi 1, vj ((1 : Int64) * (x45.toInt64)), .second, vj x49, .second, vj (f2 (f2 (f2 x55 (x69 + x49)) (x87 + x49)) (x105 + x49)), .second, vi (((((p3 * 1) + 0) + 1) + 1) + 1)]) rfl) X162 hx (H 130 rfl) (pc' := 98) rfl (by decide)) X162 hx (H 58 rfl) rfl) X162 hx (H 59 rfl) rfl rfl)
      obtain ⟨T166, X166, e166, go166⟩ := gF go165 X162 hx hZ hown (own_w hw 57 rfl) e162 F164.2.1 (H 60 rfl)
      have U167 := P66.trans (P84.trans (P102.trans P163))
      have F168 := U167.fe F7 (nS rfl)
      have go169 := (s_dup (s_aload (s_icmpYes go166 X166 hx (H 61 rfl) (pc' := 226) rfl (by decide) (flt (by decide : ¬ ((1 : Int32) < 1))).2.1) X166 hx (H 131 rfl) rfl rfl) X166 hx (H 132 rfl) rfl)
      obtain ⟨T170, X170, e170, go170⟩ := gF go169 X166 hx hZ hown (own_w hw 261 rfl) e166 F168.2.1 (H 133 rfl)
      have go171 := (s_ior (s_iconst (s_ifYes (s_iload go170 X170 hx (H 134 rfl) rfl) X170 hx (H 135 rfl) (pc' := 241) rfl (by decide) ((if0 _ _).trans (flt (by decide : ¬ ((1 : Int32) < 0))).2.1)) X170 hx (H 136 rfl) (v := 0) rfl) X170 hx (H 137 rfl))
      obtain ⟨T172, h172, X172, e172, W172, go172⟩ := w_2 go171 (putFN X170 hx hZ hown (own_w hw 261 rfl) Via.refl e170 F168.2.1 F168.1 (Or.inl (own_w hw 262 rfl)) (own_w hw 71 rfl) (ty := .boolean) (v' := (.int (nar .boolean (ph ||| (0 : Int32))))) pf_2 rfl (fits_nar_bool _) (g := mkF m _ _ _) rfl rfl (H 138 rfl))
      have Fw172 := F168.self W172
      have P173 : Pres Z a0 _ _ _ := Pres.fIx (by decide) F168 W172 (by decide)
      have KN173 := KN163.trans (KN.wr W172 g2)
      have Z173 := Nat.le_trans Z163 P173.1
      have N172 := Fr.snoc X172 N162 g2
      refine own_f0 (Q := Q27 Z a0 a1 p2 p3 p4 a5 oA vs oP cx u sx sz ph h0 n0) Bd.notSynchronized hx Bd.returns pre0 X172 go172 (H 139 rfl) e172 (by decide) (by decide) ?_
      exact ⟨rfl, N172, KN173, ((((P66.trans P84).trans P102).trans P163).trans P173)⟩
     have ihc164_97 := n_nltI (n_add (n_add (n_add (n_mul1 (nr p3) nl1) nl0 (by omega)) nl1 (by omega)) nl1 (by omega)) (n_mul1 (nr p4) nl1) hc164_97
     have U174 := P66.trans P84
     have F175 := U174.fe F3 (nS rfl)
     have go176 := (s_aloadN (s_icmpYes go96 X95 hx (H 97 rfl) (pc' := 204) rfl (by decide) (flt hc164_97).2.1) X95 hx (H 119 rfl) rfl rfl)
     obtain ⟨T177, X177, e177, go177⟩ := gF go176 X95 hx hZ hown (own_w hw 117 rfl) e95 F175.2.1 (H 120 rfl)
     have go178 := (s_aloadN (s_iloadN go177 X177 hx (H 121 rfl) rfl) X177 hx (H 122 rfl) rfl rfl)
     obtain ⟨T179, X179, e179, go179⟩ := gF go178 X177 hx hZ hown (own_w hw 57 rfl) e177 F91.2.1 (H 123 rfl)
     have F180 := U174.lj L1
     have go181 := (s_lload (s_iadd (s_iload (s_imul go179 X179 hx (H 124 rfl)) X179 hx (H 125 rfl) rfl) X179 hx (H 126 rfl)) X179 hx (H 127 rfl) rfl)
     obtain ⟨T182, h182, X182, e182, W182, go182⟩ := sJ go181 X179 hx hZ e179 F180 (n_in (n_add (n_mul1 (nr p2) nl1) nl0 (by omega)) nl4 (by omega)) (H 128 rfl)
     have P183 : Pres Z a0 _ _ _ := Pres.wrJ F180 W182
     have KN183 := KN84.trans (KN.wr W182 g1)
     have Z183 := Nat.le_trans Z84 P183.1
     have N182 := Fr.snoc X182 N89 g1
     have F184 := P183.fe F91 (nS rfl)
     have go185 := (s_aloadN (s_iload (s_goto (s_iinc go182 X182 hx (H 129 rfl) rfl (L' := #[vr a1, vi p2, vi p3, vi p4, vr a5, vi 1, vr cx, vr u, vi 1, vj ((1 : Int64) * (x45.toInt64)), .second, vj x49, .second, vj (f2 (f2 x55 (x69 + x49)) (x87 + x49)), .second, vi ((((p3 * 1) + 0) + 1) + 1)]) rfl) X182 hx (H 130 rfl) (pc' := 98) rfl (by decide)) X182 hx (H 58 rfl) rfl) X182 hx (H 59 rfl) rfl rfl)
     obtain ⟨T186, X186, e186, go186⟩ := gF go185 X182 hx hZ hown (own_w hw 57 rfl) e182 F184.2.1 (H 60 rfl)
     have U187 := P66.trans (P84.trans P183)
     have F188 := U187.fe F7 (nS rfl)
     have go189 := (s_dup (s_aload (s_icmpYes go186 X186 hx (H 61 rfl) (pc' := 226) rfl (by decide) (flt (by decide : ¬ ((1 : Int32) < 1))).2.1) X186 hx (H 131 rfl) rfl rfl) X186 hx (H 132 rfl) rfl)
     obtain ⟨T190, X190, e190, go190⟩ := gF go189 X186 hx hZ hown (own_w hw 261 rfl) e186 F188.2.1 (H 133 rfl)
     have go191 := (s_ior (s_iconst (s_ifYes (s_iload go190 X190 hx (H 134 rfl) rfl) X190 hx (H 135 rfl) (pc' := 241) rfl (by decide) ((if0 _ _).trans (flt (by decide : ¬ ((1 : Int32) < 0))).2.1)) X190 hx (H 136 rfl) (v := 0) rfl) X190 hx (H 137 rfl))
     obtain ⟨T192, h192, X192, e192, W192, go192⟩ := w_2 go191 (putFN X190 hx hZ hown (own_w hw 261 rfl) Via.refl e190 F188.2.1 F188.1 (Or.inl (own_w hw 262 rfl)) (own_w hw 71 rfl) (ty := .boolean) (v' := (.int (nar .boolean (ph ||| (0 : Int32))))) pf_2 rfl (fits_nar_bool _) (g := mkF m _ _ _) rfl rfl (H 138 rfl))
     have Fw192 := F188.self W192
     have P193 : Pres Z a0 _ _ _ := Pres.fIx (by decide) F188 W192 (by decide)
     have KN193 := KN183.trans (KN.wr W192 g2)
     have Z193 := Nat.le_trans Z183 P193.1
     have N192 := Fr.snoc X192 N182 g2
     refine own_f0 (Q := Q27 Z a0 a1 p2 p3 p4 a5 oA vs oP cx u sx sz ph h0 n0) Bd.notSynchronized hx Bd.returns pre0 X192 go192 (H 139 rfl) e192 (by decide) (by decide) ?_
     exact ⟨rfl, N192, KN193, (((P66.trans P84).trans P183).trans P193)⟩
    have ihc164_79 := n_nltI (n_add (n_add (n_mul1 (nr p3) nl1) nl0 (by omega)) nl1 (by omega)) (n_mul1 (nr p4) nl1) hc164_79
    have F194 := P66.fe F3 (nS rfl)
    have go195 := (s_aloadN (s_icmpYes go78 X77 hx (H 97 rfl) (pc' := 204) rfl (by decide) (flt hc164_79).2.1) X77 hx (H 119 rfl) rfl rfl)
    obtain ⟨T196, X196, e196, go196⟩ := gF go195 X77 hx hZ hown (own_w hw 117 rfl) e77 F194.2.1 (H 120 rfl)
    have go197 := (s_aloadN (s_iloadN go196 X196 hx (H 121 rfl) rfl) X196 hx (H 122 rfl) rfl rfl)
    obtain ⟨T198, X198, e198, go198⟩ := gF go197 X196 hx hZ hown (own_w hw 57 rfl) e196 F73.2.1 (H 123 rfl)
    have F199 := P66.lj L1
    have go200 := (s_lload (s_iadd (s_iload (s_imul go198 X198 hx (H 124 rfl)) X198 hx (H 125 rfl) rfl) X198 hx (H 126 rfl)) X198 hx (H 127 rfl) rfl)
    obtain ⟨T201, h201, X201, e201, W201, go201⟩ := sJ go200 X198 hx hZ e198 F199 (n_in (n_add (n_mul1 (nr p2) nl1) nl0 (by omega)) nl4 (by omega)) (H 128 rfl)
    have P202 : Pres Z a0 _ _ _ := Pres.wrJ F199 W201
    have KN202 := KN66.trans (KN.wr W201 g1)
    have Z202 := Nat.le_trans Z66 P202.1
    have N201 := Fr.snoc X201 N71 g1
    have F203 := P202.fe F73 (nS rfl)
    have go204 := (s_aloadN (s_iload (s_goto (s_iinc go201 X201 hx (H 129 rfl) rfl (L' := #[vr a1, vi p2, vi p3, vi p4, vr a5, vi 1, vr cx, vr u, vi 1, vj ((1 : Int64) * (x45.toInt64)), .second, vj x49, .second, vj (f2 x55 (x69 + x49)), .second, vi (((p3 * 1) + 0) + 1)]) rfl) X201 hx (H 130 rfl) (pc' := 98) rfl (by decide)) X201 hx (H 58 rfl) rfl) X201 hx (H 59 rfl) rfl rfl)
    obtain ⟨T205, X205, e205, go205⟩ := gF go204 X201 hx hZ hown (own_w hw 57 rfl) e201 F203.2.1 (H 60 rfl)
    have U206 := P66.trans P202
    have F207 := U206.fe F7 (nS rfl)
    have go208 := (s_dup (s_aload (s_icmpYes go205 X205 hx (H 61 rfl) (pc' := 226) rfl (by decide) (flt (by decide : ¬ ((1 : Int32) < 1))).2.1) X205 hx (H 131 rfl) rfl rfl) X205 hx (H 132 rfl) rfl)
    obtain ⟨T209, X209, e209, go209⟩ := gF go208 X205 hx hZ hown (own_w hw 261 rfl) e205 F207.2.1 (H 133 rfl)
    have go210 := (s_ior (s_iconst (s_ifYes (s_iload go209 X209 hx (H 134 rfl) rfl) X209 hx (H 135 rfl) (pc' := 241) rfl (by decide) ((if0 _ _).trans (flt (by decide : ¬ ((1 : Int32) < 0))).2.1)) X209 hx (H 136 rfl) (v := 0) rfl) X209 hx (H 137 rfl))
    obtain ⟨T211, h211, X211, e211, W211, go211⟩ := w_2 go210 (putFN X209 hx hZ hown (own_w hw 261 rfl) Via.refl e209 F207.2.1 F207.1 (Or.inl (own_w hw 262 rfl)) (own_w hw 71 rfl) (ty := .boolean) (v' := (.int (nar .boolean (ph ||| (0 : Int32))))) pf_2 rfl (fits_nar_bool _) (g := mkF m _ _ _) rfl rfl (H 138 rfl))
    have Fw211 := F207.self W211
    have P212 : Pres Z a0 _ _ _ := Pres.fIx (by decide) F207 W211 (by decide)
    have KN212 := KN202.trans (KN.wr W211 g2)
    have Z212 := Nat.le_trans Z202 P212.1
    have N211 := Fr.snoc X211 N201 g2
    refine own_f0 (Q := Q27 Z a0 a1 p2 p3 p4 a5 oA vs oP cx u sx sz ph h0 n0) Bd.notSynchronized hx Bd.returns pre0 X211 go211 (H 139 rfl) e211 (by decide) (by decide) ?_
    exact ⟨rfl, N211, KN212, ((P66.trans P202).trans P212)⟩
   have ihc164_61 := n_nltI (n_add (n_mul1 (nr p3) nl1) nl0 (by omega)) (n_mul1 (nr p4) nl1) hc164_61
   have go213 := (s_aloadN (s_icmpYes go60 X59 hx (H 97 rfl) (pc' := 204) rfl (by decide) (flt hc164_61).2.1) X59 hx (H 119 rfl) rfl rfl)
   obtain ⟨T214, X214, e214, go214⟩ := gF go213 X59 hx hZ hown (own_w hw 117 rfl) e59 F3.2.1 (H 120 rfl)
   have go215 := (s_aloadN (s_iloadN go214 X214 hx (H 121 rfl) rfl) X214 hx (H 122 rfl) rfl rfl)
   obtain ⟨T216, X216, e216, go216⟩ := gF go215 X214 hx hZ hown (own_w hw 57 rfl) e214 F2.2.1 (H 123 rfl)
   have go217 := (s_lload (s_iadd (s_iload (s_imul go216 X216 hx (H 124 rfl)) X216 hx (H 125 rfl) rfl) X216 hx (H 126 rfl)) X216 hx (H 127 rfl) rfl)
   obtain ⟨T218, h218, X218, e218, W218, go218⟩ := sJ go217 X216 hx hZ e216 L1 (n_in (n_add (n_mul1 (nr p2) nl1) nl0 (by omega)) nl4 (by omega)) (H 128 rfl)
   have P219 : Pres Z a0 _ _ _ := Pres.wrJ L1 W218
   have KN219 := KN0.trans (KN.wr W218 g1)
   have Z219 := Nat.le_trans Z0 P219.1
   have N218 := Fr.snoc X218 N0 g1
   have F220 := P219.fe F2 (nS rfl)
   have go221 := (s_aloadN (s_iload (s_goto (s_iinc go218 X218 hx (H 129 rfl) rfl (L' := #[vr a1, vi p2, vi p3, vi p4, vr a5, vi 1, vr cx, vr u, vi 1, vj ((1 : Int64) * (x45.toInt64)), .second, vj x49, .second, vj x55, .second, vi ((p3 * 1) + 0)]) rfl) X218 hx (H 130 rfl) (pc' := 98) rfl (by decide)) X218 hx (H 58 rfl) rfl) X218 hx (H 59 rfl) rfl rfl)
   obtain ⟨T222, X222, e222, go222⟩ := gF go221 X218 hx hZ hown (own_w hw 57 rfl) e218 F220.2.1 (H 60 rfl)
   have F223 := P219.fe F7 (nS rfl)
   have go224 := (s_dup (s_aload (s_icmpYes go222 X222 hx (H 61 rfl) (pc' := 226) rfl (by decide) (flt (by decide : ¬ ((1 : Int32) < 1))).2.1) X222 hx (H 131 rfl) rfl rfl) X222 hx (H 132 rfl) rfl)
   obtain ⟨T225, X225, e225, go225⟩ := gF go224 X222 hx hZ hown (own_w hw 261 rfl) e222 F223.2.1 (H 133 rfl)
   have go226 := (s_ior (s_iconst (s_ifYes (s_iload go225 X225 hx (H 134 rfl) rfl) X225 hx (H 135 rfl) (pc' := 241) rfl (by decide) ((if0 _ _).trans (flt (by decide : ¬ ((1 : Int32) < 0))).2.1)) X225 hx (H 136 rfl) (v := 0) rfl) X225 hx (H 137 rfl))
   obtain ⟨T227, h227, X227, e227, W227, go227⟩ := w_2 go226 (putFN X225 hx hZ hown (own_w hw 261 rfl) Via.refl e225 F223.2.1 F223.1 (Or.inl (own_w hw 262 rfl)) (own_w hw 71 rfl) (ty := .boolean) (v' := (.int (nar .boolean (ph ||| (0 : Int32))))) pf_2 rfl (fits_nar_bool _) (g := mkF m _ _ _) rfl rfl (H 138 rfl))
   have Fw227 := F223.self W227
   have P228 : Pres Z a0 _ _ _ := Pres.fIx (by decide) F223 W227 (by decide)
   have KN228 := KN219.trans (KN.wr W227 g2)
   have Z228 := Nat.le_trans Z219 P228.1
   have N227 := Fr.snoc X227 N218 g2
   refine own_f0 (Q := Q27 Z a0 a1 p2 p3 p4 a5 oA vs oP cx u sx sz ph h0 n0) Bd.notSynchronized hx Bd.returns pre0 X227 go227 (H 139 rfl) e227 (by decide) (by decide) ?_
   exact ⟨rfl, N227, KN228, (P219.trans P228)⟩
  have ihc9_6 := n_neI (nr p3) nl0 hc9_6
  have go229 := (s_aload (s_ifYes go5 X2 hx (H 6 rfl) (pc' := 88) rfl (by decide) ((if0 _ _).trans (feq hc9_6).2)) X2 hx (H 53 rfl) rfl rfl)
  obtain ⟨T230, X230, e230, go230⟩ := gF go229 X2 hx hZ hown (own_w hw 229 rfl) e2 F4.2.1 (H 54 rfl)
  have go231 := (s_aloadN (s_iload (s_istore (s_iconst (s_astore go230 X230 hx (H 55 rfl) rfl (L' := #[vr a1, vi p2, vi p3, vi p4, vr a5, vi 1, vr cx, vr u, .unset, .unset, .unset, .unset, .unset, .unset, .unset, .unset]) rfl) X230 hx (H 56 rfl) (v := 0) rfl) X230 hx (H 57 rfl) (L' := #[vr a1, vi p2, vi p3, vi p4, vr a5, vi 1, vr cx, vr u, vi 0, .unset, .unset, .unset, .unset, .unset, .unset, .unset]) rfl) X230 hx (H 58 rfl) rfl) X230 hx (H 59 rfl) rfl rfl)
  obtain ⟨T232, X232, e232, go232⟩ := gF go231 X230 hx hZ hown (own_w hw 57 rfl) e230 F2.2.1 (H 60 rfl)
  have go233 := (s_iload (s_aload (s_i2lE (s_iload (s_icmpNo go232 X232 hx (H 61 rfl) (tlt (by decide : (0 : Int32) < 1)).2.1) X232 hx (H 62 rfl) rfl) X232 hx (H 63 rfl) (v := 1) rfl) X232 hx (H 64 rfl) rfl rfl) X232 hx (H 65 rfl) rfl)
  obtain ⟨x234, go234⟩ := lI go233 X232 hx hZ e232 L2 ⟨by decide, by decide⟩ (H 66 rfl)
  have go235 := (s_aload (s_lstore (s_lmul (s_i2l go234 X232 hx (H 67 rfl)) X232 hx (H 68 rfl)) X232 hx (H 69 rfl) (L' := #[vr a1, vi p2, vi p3, vi p4, vr a5, vi 1, vr cx, vr u, vi 0, vj ((1 : Int64) * (x234.toInt64)), .second, .unset, .unset, .unset, .unset, .unset]) rfl) X232 hx (H 70 rfl) rfl rfl)
  obtain ⟨T236, X236, e236, go236⟩ := gF go235 X232 hx hZ hown (own_w hw 260 rfl) e232 F5.2.1 (H 71 rfl)
  have go237 := (s_iload go236 X236 hx (H 72 rfl) rfl)
  obtain ⟨x238, go238⟩ := lJ go237 X236 hx hZ e236 L4 ⟨by decide, by decide⟩ (H 73 rfl)
  have go239 := (s_aloadN (s_lstore go238 X236 hx (H 74 rfl) (L' := #[vr a1, vi p2, vi p3, vi p4, vr a5, vi 1, vr cx, vr u, vi 0, vj ((1 : Int64) * (x234.toInt64)), .second, vj x238, .second, .unset, .unset, .unset]) rfl) X236 hx (H 75 rfl) rfl rfl)
  obtain ⟨T240, X240, e240, go240⟩ := gF go239 X236 hx hZ hown (own_w hw 117 rfl) e236 F3.2.1 (H 76 rfl)
  have go241 := (s_aloadN (s_iloadN go240 X240 hx (H 77 rfl) rfl) X240 hx (H 78 rfl) rfl rfl)
  obtain ⟨T242, X242, e242, go242⟩ := gF go241 X240 hx hZ hown (own_w hw 57 rfl) e240 F2.2.1 (H 79 rfl)
  have go243 := (s_iadd (s_iload (s_imul go242 X242 hx (H 80 rfl)) X242 hx (H 81 rfl) rfl) X242 hx (H 82 rfl))
  obtain ⟨x244, go244⟩ := lJ go243 X242 hx hZ e242 L1 (n_in (n_add (n_mul1 (nr p2) nl1) nl0 (by omega)) nl4 (by omega)) (H 83 rfl)
  have go245 := (s_aloadN (s_iloadN (s_lstore go244 X242 hx (H 84 rfl) (L' := #[vr a1, vi p2, vi p3, vi p4, vr a5, vi 1, vr cx, vr u, vi 0, vj ((1 : Int64) * (x234.toInt64)), .second, vj x238, .second, vj x244, .second, .unset]) rfl) X242 hx (H 85 rfl) rfl) X242 hx (H 86 rfl) rfl rfl)
  obtain ⟨T246, X246, e246, go246⟩ := gF go245 X242 hx hZ hown (own_w hw 57 rfl) e242 F2.2.1 (H 87 rfl)
  have go247 := (s_aloadN (s_iloadN (s_iload (s_istore (s_iadd (s_iload (s_imul go246 X246 hx (H 88 rfl)) X246 hx (H 89 rfl) rfl) X246 hx (H 90 rfl)) X246 hx (H 91 rfl) (L' := #[vr a1, vi p2, vi p3, vi p4, vr a5, vi 1, vr cx, vr u, vi 0, vj ((1 : Int64) * (x234.toInt64)), .second, vj x238, .second, vj x244, .second, vi ((p3 * 1) + 0)]) rfl) X246 hx (H 92 rfl) rfl) X246 hx (H 93 rfl) rfl) X246 hx (H 94 rfl) rfl rfl)
  obtain ⟨T248, X248, e248, go248⟩ := gF go247 X246 hx hZ hown (own_w hw 57 rfl) e246 F2.2.1 (H 95 rfl)
  have go249 := (s_imul go248 X248 hx (H 96 rfl))
  by_cases hc164_250 : ((p3 * 1) + 0) < (p4 * 1)
  ·have ihc164_250 := n_ltI (n_add (n_mul1 (nr p3) nl1) nl0 (by omega)) (n_mul1 (nr p4) nl1) hc164_250
   have go251 := (s_dup2 (s_iload (s_aload (s_icmpNo go249 X248 hx (H 97 rfl) (tlt hc164_250).2.1) X248 hx (H 98 rfl) rfl rfl) X248 hx (H 99 rfl) rfl) X248 hx (H 100 rfl) rfl rfl)
   obtain ⟨x252, go252⟩ := lJ go251 X248 hx hZ e248 L3 (n_in (n_add (n_mul1 (nr p3) nl1) nl0 (by omega)) nl4 (by omega)) (H 101 rfl)
   have go253 := (s_ladd (s_lload go252 X248 hx (H 102 rfl) rfl) X248 hx (H 103 rfl))
   obtain ⟨T254, h254, X254, e254, W254, go254⟩ := sJ go253 X248 hx hZ e248 L3 (n_in (n_add (n_mul1 (nr p3) nl1) nl0 (by omega)) nl4 (by omega)) (H 104 rfl)
   have P255 : Pres Z a0 _ _ _ := Pres.wrJ L3 W254
   have KN255 := KN0.trans (KN.wr W254 g3)
   have Z255 := Nat.le_trans Z0 P255.1
   have N254 := Fr.snoc X254 N0 g3
   have F256 := P255.lj L3
   have go257 := (s_iload (s_aload (s_lload go254 X254 hx (H 105 rfl) rfl) X254 hx (H 106 rfl) rfl rfl) X254 hx (H 107 rfl) rfl)
   obtain ⟨x258, go258⟩ := lJ go257 X254 hx hZ e254 F256 (n_in (n_add (n_mul1 (nr p3) nl1) nl0 (by omega)) nl4 (by omega)) (H 108 rfl)
   have go259 := (s_ladd (s_lload go258 X254 hx (H 109 rfl) rfl) X254 hx (H 110 rfl))
   obtain ⟨_, _, ⟨T260, L260, k260, n260⟩, -, X260, ⟨Lc260, hQ260, l260, y260, z260⟩, g260⟩ := c_s go259 (Jvm.LawKit.callS X254 hx (y := y_1) hown (mvT hZ (own_w hw 268 rfl)) (mvT hZ (own_w hw 7 rfl)) (mvT hZ (own_w hw 4 rfl)) (mvT hZ (own_w hw 8 rfl)) (by decide) (backOf (W := 0) (rm2 l Z a0 hw [] x244 (x258 + x238) h254 n0 Z255 ) hZ (own_w hw 8 rfl) (own_w hw 4 rfl) (by decide) (by decide)) (g := mkF m _ _ _) rfl (by rw [hml]; rfl) (argsL := [(.long x244), (.long (x258 + x238))]) (rest := []) (lenOf pd27_0 rfl) rfl (by show 2 * 0 + _ ≤ _; exact Nat.le_of_eq rfl) (H 111 rfl) (fun _ _ => ⟨rfl, e254, (by decide : 0 + 0 ≤ _), (by decide : 0 + 0 ≤ _)⟩))
   dsimp only [Pt.U, Pt.locs, Pt.cells, Pt.slots] at X260 l260 y260 z260 g260 hQ260
   subst l260 y260 z260
   obtain ⟨rfl, Nq260, eh260⟩ := hQ260
   have N260 := Fr.app N254 Nq260
   have go261 := cr g260
   have F262 := P255.fe F2 (nS rfl)
   have go263 := (s_aloadN (s_iload (s_lstore go261 X260 hx (H 112 rfl) (L' := #[vr a1, vi p2, vi p3, vi p4, vr a5, vi 1, vr cx, vr u, vi 0, vj ((1 : Int64) * (x234.toInt64)), .second, vj x238, .second, vj (f2 x244 (x258 + x238)), .second, vi ((p3 * 1) + 0)]) rfl) X260 hx (H 113 rfl) rfl) X260 hx (H 114 rfl) rfl rfl)
   obtain ⟨T264, X264, e264, go264⟩ := gF go263 X260 hx hZ hown (own_w hw 57 rfl) eh260 F262.2.1 (H 115 rfl)
   have go265 := (s_aloadN (s_iloadN (s_iload (s_goto (s_istore (s_iadd go264 X264 hx (H 116 rfl)) X264 hx (H 117 rfl) (L' := #[vr a1, vi p2, vi p3, vi p4, vr a5, vi 1, vr cx, vr u, vi 0, vj ((1 : Int64) * (x234.toInt64)), .second, vj x238, .second, vj (f2 x244 (x258 + x238)), .second, vi (((p3 * 1) + 0) + 1)]) rfl) X264 hx (H 118 rfl) (pc' := 156) rfl (by decide)) X264 hx (H 92 rfl) rfl) X264 hx (H 93 rfl) rfl) X264 hx (H 94 rfl) rfl rfl)
   obtain ⟨T266, X266, e266, go266⟩ := gF go265 X264 hx hZ hown (own_w hw 57 rfl) e264 F262.2.1 (H 95 rfl)
   have go267 := (s_imul go266 X266 hx (H 96 rfl))
   by_cases hc164_268 : (((p3 * 1) + 0) + 1) < (p4 * 1)
   ·have ihc164_268 := n_ltI (n_add (n_add (n_mul1 (nr p3) nl1) nl0 (by omega)) nl1 (by omega)) (n_mul1 (nr p4) nl1) hc164_268
    have go269 := (s_dup2 (s_iload (s_aload (s_icmpNo go267 X266 hx (H 97 rfl) (tlt hc164_268).2.1) X266 hx (H 98 rfl) rfl rfl) X266 hx (H 99 rfl) rfl) X266 hx (H 100 rfl) rfl rfl)
    obtain ⟨x270, go270⟩ := lJ go269 X266 hx hZ e266 F256 (n_in (n_add (n_add (n_mul1 (nr p3) nl1) nl0 (by omega)) nl1 (by omega)) nl4 (by omega)) (H 101 rfl)
    have go271 := (s_ladd (s_lload go270 X266 hx (H 102 rfl) rfl) X266 hx (H 103 rfl))
    obtain ⟨T272, h272, X272, e272, W272, go272⟩ := sJ go271 X266 hx hZ e266 F256 (n_in (n_add (n_add (n_mul1 (nr p3) nl1) nl0 (by omega)) nl1 (by omega)) nl4 (by omega)) (H 104 rfl)
    have P273 : Pres Z a0 _ _ _ := Pres.wrJ F256 W272
    have KN273 := KN255.trans (KN.wr W272 g3)
    have Z273 := Nat.le_trans Z255 P273.1
    have N272 := Fr.snoc X272 N260 g3
    have F274 := P273.lj F256
    have go275 := (s_iload (s_aload (s_lload go272 X272 hx (H 105 rfl) rfl) X272 hx (H 106 rfl) rfl rfl) X272 hx (H 107 rfl) rfl)
    obtain ⟨x276, go276⟩ := lJ go275 X272 hx hZ e272 F274 (n_in (n_add (n_add (n_mul1 (nr p3) nl1) nl0 (by omega)) nl1 (by omega)) nl4 (by omega)) (H 108 rfl)
    have go277 := (s_ladd (s_lload go276 X272 hx (H 109 rfl) rfl) X272 hx (H 110 rfl))
    obtain ⟨_, _, ⟨T278, L278, k278, n278⟩, -, X278, ⟨Lc278, hQ278, l278, y278, z278⟩, g278⟩ := c_s go277 (Jvm.LawKit.callS X272 hx (y := y_1) hown (mvT hZ (own_w hw 268 rfl)) (mvT hZ (own_w hw 7 rfl)) (mvT hZ (own_w hw 4 rfl)) (mvT hZ (own_w hw 8 rfl)) (by decide) (backOf (W := 0) (rm2 l Z a0 hw [] (f2 x244 (x258 + x238)) (x276 + x238) h272 n0 Z273 ) hZ (own_w hw 8 rfl) (own_w hw 4 rfl) (by decide) (by decide)) (g := mkF m _ _ _) rfl (by rw [hml]; rfl) (argsL := [(.long (f2 x244 (x258 + x238))), (.long (x276 + x238))]) (rest := []) (lenOf pd27_0 rfl) rfl (by show 2 * 0 + _ ≤ _; exact Nat.le_of_eq rfl) (H 111 rfl) (fun _ _ => ⟨rfl, e272, (by decide : 0 + 0 ≤ _), (by decide : 0 + 0 ≤ _)⟩))
    dsimp only [Pt.U, Pt.locs, Pt.cells, Pt.slots] at X278 l278 y278 z278 g278 hQ278
    subst l278 y278 z278
    obtain ⟨rfl, Nq278, eh278⟩ := hQ278
    have N278 := Fr.app N272 Nq278
    have go279 := cr g278
    have F280 := P273.fe F262 (nS rfl)
    have go281 := (s_aloadN (s_iload (s_lstore go279 X278 hx (H 112 rfl) (L' := #[vr a1, vi p2, vi p3, vi p4, vr a5, vi 1, vr cx, vr u, vi 0, vj ((1 : Int64) * (x234.toInt64)), .second, vj x238, .second, vj (f2 (f2 x244 (x258 + x238)) (x276 + x238)), .second, vi (((p3 * 1) + 0) + 1)]) rfl) X278 hx (H 113 rfl) rfl) X278 hx (H 114 rfl) rfl rfl)
    obtain ⟨T282, X282, e282, go282⟩ := gF go281 X278 hx hZ hown (own_w hw 57 rfl) eh278 F280.2.1 (H 115 rfl)
    have go283 := (s_aloadN (s_iloadN (s_iload (s_goto (s_istore (s_iadd go282 X282 hx (H 116 rfl)) X282 hx (H 117 rfl) (L' := #[vr a1, vi p2, vi p3, vi p4, vr a5, vi 1, vr cx, vr u, vi 0, vj ((1 : Int64) * (x234.toInt64)), .second, vj x238, .second, vj (f2 (f2 x244 (x258 + x238)) (x276 + x238)), .second, vi ((((p3 * 1) + 0) + 1) + 1)]) rfl) X282 hx (H 118 rfl) (pc' := 156) rfl (by decide)) X282 hx (H 92 rfl) rfl) X282 hx (H 93 rfl) rfl) X282 hx (H 94 rfl) rfl rfl)
    obtain ⟨T284, X284, e284, go284⟩ := gF go283 X282 hx hZ hown (own_w hw 57 rfl) e282 F280.2.1 (H 95 rfl)
    have go285 := (s_imul go284 X284 hx (H 96 rfl))
    by_cases hc164_286 : ((((p3 * 1) + 0) + 1) + 1) < (p4 * 1)
    ·have ihc164_286 := n_ltI (n_add (n_add (n_add (n_mul1 (nr p3) nl1) nl0 (by omega)) nl1 (by omega)) nl1 (by omega)) (n_mul1 (nr p4) nl1) hc164_286
     have go287 := (s_dup2 (s_iload (s_aload (s_icmpNo go285 X284 hx (H 97 rfl) (tlt hc164_286).2.1) X284 hx (H 98 rfl) rfl rfl) X284 hx (H 99 rfl) rfl) X284 hx (H 100 rfl) rfl rfl)
     obtain ⟨x288, go288⟩ := lJ go287 X284 hx hZ e284 F274 (n_in (n_add (n_add (n_add (n_mul1 (nr p3) nl1) nl0 (by omega)) nl1 (by omega)) nl1 (by omega)) nl4 (by omega)) (H 101 rfl)
     have go289 := (s_ladd (s_lload go288 X284 hx (H 102 rfl) rfl) X284 hx (H 103 rfl))
     obtain ⟨T290, h290, X290, e290, W290, go290⟩ := sJ go289 X284 hx hZ e284 F274 (n_in (n_add (n_add (n_add (n_mul1 (nr p3) nl1) nl0 (by omega)) nl1 (by omega)) nl1 (by omega)) nl4 (by omega)) (H 104 rfl)
     have P291 : Pres Z a0 _ _ _ := Pres.wrJ F274 W290
     have KN291 := KN273.trans (KN.wr W290 g3)
     have Z291 := Nat.le_trans Z273 P291.1
     have N290 := Fr.snoc X290 N278 g3
     have F292 := P291.lj F274
     have go293 := (s_iload (s_aload (s_lload go290 X290 hx (H 105 rfl) rfl) X290 hx (H 106 rfl) rfl rfl) X290 hx (H 107 rfl) rfl)
     obtain ⟨x294, go294⟩ := lJ go293 X290 hx hZ e290 F292 (n_in (n_add (n_add (n_add (n_mul1 (nr p3) nl1) nl0 (by omega)) nl1 (by omega)) nl1 (by omega)) nl4 (by omega)) (H 108 rfl)
     have go295 := (s_ladd (s_lload go294 X290 hx (H 109 rfl) rfl) X290 hx (H 110 rfl))
     obtain ⟨_, _, ⟨T296, L296, k296, n296⟩, -, X296, ⟨Lc296, hQ296, l296, y296, z296⟩, g296⟩ := c_s go295 (Jvm.LawKit.callS X290 hx (y := y_1) hown (mvT hZ (own_w hw 268 rfl)) (mvT hZ (own_w hw 7 rfl)) (mvT hZ (own_w hw 4 rfl)) (mvT hZ (own_w hw 8 rfl)) (by decide) (backOf (W := 0) (rm2 l Z a0 hw [] (f2 (f2 x244 (x258 + x238)) (x276 + x238)) (x294 + x238) h290 n0 Z291 ) hZ (own_w hw 8 rfl) (own_w hw 4 rfl) (by decide) (by decide)) (g := mkF m _ _ _) rfl (by rw [hml]; rfl) (argsL := [(.long (f2 (f2 x244 (x258 + x238)) (x276 + x238))), (.long (x294 + x238))]) (rest := []) (lenOf pd27_0 rfl) rfl (by show 2 * 0 + _ ≤ _; exact Nat.le_of_eq rfl) (H 111 rfl) (fun _ _ => ⟨rfl, e290, (by decide : 0 + 0 ≤ _), (by decide : 0 + 0 ≤ _)⟩))
     dsimp only [Pt.U, Pt.locs, Pt.cells, Pt.slots] at X296 l296 y296 z296 g296 hQ296
     subst l296 y296 z296
     obtain ⟨rfl, Nq296, eh296⟩ := hQ296
     have N296 := Fr.app N290 Nq296
     have go297 := cr g296
     have F298 := P291.fe F280 (nS rfl)
     have go299 := (s_aloadN (s_iload (s_lstore go297 X296 hx (H 112 rfl) (L' := #[vr a1, vi p2, vi p3, vi p4, vr a5, vi 1, vr cx, vr u, vi 0, vj ((1 : Int64) * (x234.toInt64)), .second, vj x238, .second, vj (f2 (f2 (f2 x244 (x258 + x238)) (x276 + x238)) (x294 + x238)), .second, vi ((((p3 * 1) + 0) + 1) + 1)]) rfl) X296 hx (H 113 rfl) rfl) X296 hx (H 114 rfl) rfl rfl)
     obtain ⟨T300, X300, e300, go300⟩ := gF go299 X296 hx hZ hown (own_w hw 57 rfl) eh296 F298.2.1 (H 115 rfl)
     have go301 := (s_aloadN (s_iloadN (s_iload (s_goto (s_istore (s_iadd go300 X300 hx (H 116 rfl)) X300 hx (H 117 rfl) (L' := #[vr a1, vi p2, vi p3, vi p4, vr a5, vi 1, vr cx, vr u, vi 0, vj ((1 : Int64) * (x234.toInt64)), .second, vj x238, .second, vj (f2 (f2 (f2 x244 (x258 + x238)) (x276 + x238)) (x294 + x238)), .second, vi (((((p3 * 1) + 0) + 1) + 1) + 1)]) rfl) X300 hx (H 118 rfl) (pc' := 156) rfl (by decide)) X300 hx (H 92 rfl) rfl) X300 hx (H 93 rfl) rfl) X300 hx (H 94 rfl) rfl rfl)
     obtain ⟨T302, X302, e302, go302⟩ := gF go301 X300 hx hZ hown (own_w hw 57 rfl) e300 F298.2.1 (H 95 rfl)
     have go303 := (s_imul go302 X302 hx (H 96 rfl))
     by_cases hc164_304 : (((((p3 * 1) + 0) + 1) + 1) + 1) < (p4 * 1)
     ·have ihc164_304 := n_ltI (n_add (n_add (n_add (n_add (n_mul1 (nr p3) nl1) nl0 (by omega)) nl1 (by omega)) nl1 (by omega)) nl1 (by omega)) (n_mul1 (nr p4) nl1) hc164_304
      have go305 := (s_dup2 (s_iload (s_aload (s_icmpNo go303 X302 hx (H 97 rfl) (tlt hc164_304).2.1) X302 hx (H 98 rfl) rfl rfl) X302 hx (H 99 rfl) rfl) X302 hx (H 100 rfl) rfl rfl)
      obtain ⟨x306, go306⟩ := lJ go305 X302 hx hZ e302 F292 (n_in (n_add (n_add (n_add (n_add (n_mul1 (nr p3) nl1) nl0 (by omega)) nl1 (by omega)) nl1 (by omega)) nl1 (by omega)) nl4 (by omega)) (H 101 rfl)
      have go307 := (s_ladd (s_lload go306 X302 hx (H 102 rfl) rfl) X302 hx (H 103 rfl))
      obtain ⟨T308, h308, X308, e308, W308, go308⟩ := sJ go307 X302 hx hZ e302 F292 (n_in (n_add (n_add (n_add (n_add (n_mul1 (nr p3) nl1) nl0 (by omega)) nl1 (by omega)) nl1 (by omega)) nl1 (by omega)) nl4 (by omega)) (H 104 rfl)
      have P309 : Pres Z a0 _ _ _ := Pres.wrJ F292 W308
      have KN309 := KN291.trans (KN.wr W308 g3)
      have Z309 := Nat.le_trans Z291 P309.1
      have N308 := Fr.snoc X308 N296 g3
      have F310 := P309.lj F292
      have go311 := (s_iload (s_aload (s_lload go308 X308 hx (H 105 rfl) rfl) X308 hx (H 106 rfl) rfl rfl) X308 hx (H 107 rfl) rfl)
      obtain ⟨x312, go312⟩ := lJ go311 X308 hx hZ e308 F310 (n_in (n_add (n_add (n_add (n_add (n_mul1 (nr p3) nl1) nl0 (by omega)) nl1 (by omega)) nl1 (by omega)) nl1 (by omega)) nl4 (by omega)) (H 108 rfl)
      have go313 := (s_ladd (s_lload go312 X308 hx (H 109 rfl) rfl) X308 hx (H 110 rfl))
      obtain ⟨_, _, ⟨T314, L314, k314, n314⟩, -, X314, ⟨Lc314, hQ314, l314, y314, z314⟩, g314⟩ := c_s go313 (Jvm.LawKit.callS X308 hx (y := y_1) hown (mvT hZ (own_w hw 268 rfl)) (mvT hZ (own_w hw 7 rfl)) (mvT hZ (own_w hw 4 rfl)) (mvT hZ (own_w hw 8 rfl)) (by decide) (backOf (W := 0) (rm2 l Z a0 hw [] (f2 (f2 (f2 x244 (x258 + x238)) (x276 + x238)) (x294 + x238)) (x312 + x238) h308 n0 Z309 ) hZ (own_w hw 8 rfl) (own_w hw 4 rfl) (by decide) (by decide)) (g := mkF m _ _ _) rfl (by rw [hml]; rfl) (argsL := [(.long (f2 (f2 (f2 x244 (x258 + x238)) (x276 + x238)) (x294 + x238))), (.long (x312 + x238))]) (rest := []) (lenOf pd27_0 rfl) rfl (by show 2 * 0 + _ ≤ _; exact Nat.le_of_eq rfl) (H 111 rfl) (fun _ _ => ⟨rfl, e308, (by decide : 0 + 0 ≤ _), (by decide : 0 + 0 ≤ _)⟩))
      dsimp only [Pt.U, Pt.locs, Pt.cells, Pt.slots] at X314 l314 y314 z314 g314 hQ314
      subst l314 y314 z314
      obtain ⟨rfl, Nq314, eh314⟩ := hQ314
      have N314 := Fr.app N308 Nq314
      have go315 := cr g314
      have F316 := P309.fe F298 (nS rfl)
      have go317 := (s_aloadN (s_iload (s_lstore go315 X314 hx (H 112 rfl) (L' := #[vr a1, vi p2, vi p3, vi p4, vr a5, vi 1, vr cx, vr u, vi 0, vj ((1 : Int64) * (x234.toInt64)), .second, vj x238, .second, vj (f2 (f2 (f2 (f2 x244 (x258 + x238)) (x276 + x238)) (x294 + x238)) (x312 + x238)), .second, vi (((((p3 * 1) + 0) + 1) + 1) + 1)]) rfl) X314 hx (H 113 rfl) rfl) X314 hx (H 114 rfl) rfl rfl)
      obtain ⟨T318, X318, e318, go318⟩ := gF go317 X314 hx hZ hown (own_w hw 57 rfl) eh314 F316.2.1 (H 115 rfl)
      have go319 := (s_aloadN (s_iloadN (s_iload (s_goto (s_istore (s_iadd go318 X318 hx (H 116 rfl)) X318 hx (H 117 rfl) (L' := #[vr a1, vi p2, vi p3, vi p4, vr a5, vi 1, vr cx, vr u, vi 0, vj ((1 : Int64) * (x234.toInt64)), .second, vj x238, .second, vj (f2 (f2 (f2 (f2 x244 (x258 + x238)) (x276 + x238)) (x294 + x238)) (x312 + x238)), .second, vi ((((((p3 * 1) + 0) + 1) + 1) + 1) + 1)]) rfl) X318 hx (H 118 rfl) (pc' := 156) rfl (by decide)) X318 hx (H 92 rfl) rfl) X318 hx (H 93 rfl) rfl) X318 hx (H 94 rfl) rfl rfl)
      obtain ⟨T320, X320, e320, go320⟩ := gF go319 X318 hx hZ hown (own_w hw 57 rfl) e318 F316.2.1 (H 95 rfl)
      have go322 := (s_imul go320 X320 hx (H 96 rfl))
      have hd321 : ¬ (((((((p3 * 1) + 0) + 1) + 1) + 1) + 1) < (p4 * 1)) := n_nlt (n_add (n_add (n_add (n_add (n_add (n_mul1 (nr p3) nl1) nl0 (by omega)) nl1 (by omega)) nl1 (by omega)) nl1 (by omega)) nl1 (by omega)) (n_mul1 (nr p4) nl1) (by omega)
      have U323 := P255.trans (P273.trans (P291.trans P309))
      have F324 := U323.fe F3 (nS rfl)
      have go325 := (s_aloadN (s_icmpYes go322 X320 hx (H 97 rfl) (pc' := 204) rfl (by decide) (flt hd321).2.1) X320 hx (H 119 rfl) rfl rfl)
      obtain ⟨T326, X326, e326, go326⟩ := gF go325 X320 hx hZ hown (own_w hw 117 rfl) e320 F324.2.1 (H 120 rfl)
      have go327 := (s_aloadN (s_iloadN go326 X326 hx (H 121 rfl) rfl) X326 hx (H 122 rfl) rfl rfl)
      obtain ⟨T328, X328, e328, go328⟩ := gF go327 X326 hx hZ hown (own_w hw 57 rfl) e326 F316.2.1 (H 123 rfl)
      have F329 := U323.lj L1
      have go330 := (s_lload (s_iadd (s_iload (s_imul go328 X328 hx (H 124 rfl)) X328 hx (H 125 rfl) rfl) X328 hx (H 126 rfl)) X328 hx (H 127 rfl) rfl)
      obtain ⟨T331, h331, X331, e331, W331, go331⟩ := sJ go330 X328 hx hZ e328 F329 (n_in (n_add (n_mul1 (nr p2) nl1) nl0 (by omega)) nl4 (by omega)) (H 128 rfl)
      have P332 : Pres Z a0 _ _ _ := Pres.wrJ F329 W331
      have KN332 := KN309.trans (KN.wr W331 g1)
      have Z332 := Nat.le_trans Z309 P332.1
      have N331 := Fr.snoc X331 N314 g1
      have F333 := P332.fe F316 (nS rfl)
      have go334 := (s_aloadN (s_iload (s_goto (s_iinc go331 X331 hx (H 129 rfl) rfl (L' := #[vr a1, vi p2, vi p3, vi p4, vr a5, vi 1, vr cx, vr u, vi 1, vj ((1 : Int64) * (x234.toInt64)), .second, vj x238, .second, vj (f2 (f2 (f2 (f2 x244 (x258 + x238)) (x276 + x238)) (x294 + x238)) (x312 + x238)), .second, vi ((((((p3 * 1) + 0) + 1) + 1) + 1) + 1)]) rfl) X331 hx (H 130 rfl) (pc' := 98) rfl (by decide)) X331 hx (H 58 rfl) rfl) X331 hx (H 59 rfl) rfl rfl)
      obtain ⟨T335, X335, e335, go335⟩ := gF go334 X331 hx hZ hown (own_w hw 57 rfl) e331 F333.2.1 (H 60 rfl)
      have U336 := P255.trans (P273.trans (P291.trans (P309.trans P332)))
      have F337 := U336.fe F7 (nS rfl)
      have go338 := (s_dup (s_aload (s_icmpYes go335 X335 hx (H 61 rfl) (pc' := 226) rfl (by decide) (flt (by decide : ¬ ((1 : Int32) < 1))).2.1) X335 hx (H 131 rfl) rfl rfl) X335 hx (H 132 rfl) rfl)
      obtain ⟨T339, X339, e339, go339⟩ := gF go338 X335 hx hZ hown (own_w hw 261 rfl) e335 F337.2.1 (H 133 rfl)
      have go340 := (s_ior (s_iconst (s_ifYes (s_iload go339 X339 hx (H 134 rfl) rfl) X339 hx (H 135 rfl) (pc' := 241) rfl (by decide) ((if0 _ _).trans (flt (by decide : ¬ ((1 : Int32) < 0))).2.1)) X339 hx (H 136 rfl) (v := 0) rfl) X339 hx (H 137 rfl))
      obtain ⟨T341, h341, X341, e341, W341, go341⟩ := w_2 go340 (putFN X339 hx hZ hown (own_w hw 261 rfl) Via.refl e339 F337.2.1 F337.1 (Or.inl (own_w hw 262 rfl)) (own_w hw 71 rfl) (ty := .boolean) (v' := (.int (nar .boolean (ph ||| (0 : Int32))))) pf_2 rfl (fits_nar_bool _) (g := mkF m _ _ _) rfl rfl (H 138 rfl))
      have Fw341 := F337.self W341
      have P342 : Pres Z a0 _ _ _ := Pres.fIx (by decide) F337 W341 (by decide)
      have KN342 := KN332.trans (KN.wr W341 g2)
      have Z342 := Nat.le_trans Z332 P342.1
      have N341 := Fr.snoc X341 N331 g2
      refine own_f0 (Q := Q27 Z a0 a1 p2 p3 p4 a5 oA vs oP cx u sx sz ph h0 n0) Bd.notSynchronized hx Bd.returns pre0 X341 go341 (H 139 rfl) e341 (by decide) (by decide) ?_
      exact ⟨rfl, N341, KN342, (((((P255.trans P273).trans P291).trans P309).trans P332).trans P342)⟩
     have ihc164_304 := n_nltI (n_add (n_add (n_add (n_add (n_mul1 (nr p3) nl1) nl0 (by omega)) nl1 (by omega)) nl1 (by omega)) nl1 (by omega)) (n_mul1 (nr p4) nl1) hc164_304
     have U343 := P255.trans (P273.trans P291)
     have F344 := U343.fe F3 (nS rfl)
     have go345 := (s_aloadN (s_icmpYes go303 X302 hx (H 97 rfl) (pc' := 204) rfl (by decide) (flt hc164_304).2.1) X302 hx (H 119 rfl) rfl rfl)
     obtain ⟨T346, X346, e346, go346⟩ := gF go345 X302 hx hZ hown (own_w hw 117 rfl) e302 F344.2.1 (H 120 rfl)
     have go347 := (s_aloadN (s_iloadN go346 X346 hx (H 121 rfl) rfl) X346 hx (H 122 rfl) rfl rfl)
     obtain ⟨T348, X348, e348, go348⟩ := gF go347 X346 hx hZ hown (own_w hw 57 rfl) e346 F298.2.1 (H 123 rfl)
     have F349 := U343.lj L1
     have go350 := (s_lload (s_iadd (s_iload (s_imul go348 X348 hx (H 124 rfl)) X348 hx (H 125 rfl) rfl) X348 hx (H 126 rfl)) X348 hx (H 127 rfl) rfl)
     obtain ⟨T351, h351, X351, e351, W351, go351⟩ := sJ go350 X348 hx hZ e348 F349 (n_in (n_add (n_mul1 (nr p2) nl1) nl0 (by omega)) nl4 (by omega)) (H 128 rfl)
     have P352 : Pres Z a0 _ _ _ := Pres.wrJ F349 W351
     have KN352 := KN291.trans (KN.wr W351 g1)
     have Z352 := Nat.le_trans Z291 P352.1
     have N351 := Fr.snoc X351 N296 g1
     have F353 := P352.fe F298 (nS rfl)
     have go354 := (s_aloadN (s_iload (s_goto (s_iinc go351 X351 hx (H 129 rfl) rfl (L' := #[vr a1, vi p2, vi p3, vi p4, vr a5, vi 1, vr cx, vr u, vi 1, vj ((1 : Int64) * (x234.toInt64)), .second, vj x238, .second, vj (f2 (f2 (f2 x244 (x258 + x238)) (x276 + x238)) (x294 + x238)), .second, vi (((((p3 * 1) + 0) + 1) + 1) + 1)]) rfl) X351 hx (H 130 rfl) (pc' := 98) rfl (by decide)) X351 hx (H 58 rfl) rfl) X351 hx (H 59 rfl) rfl rfl)
     obtain ⟨T355, X355, e355, go355⟩ := gF go354 X351 hx hZ hown (own_w hw 57 rfl) e351 F353.2.1 (H 60 rfl)
     have U356 := P255.trans (P273.trans (P291.trans P352))
     have F357 := U356.fe F7 (nS rfl)
     have go358 := (s_dup (s_aload (s_icmpYes go355 X355 hx (H 61 rfl) (pc' := 226) rfl (by decide) (flt (by decide : ¬ ((1 : Int32) < 1))).2.1) X355 hx (H 131 rfl) rfl rfl) X355 hx (H 132 rfl) rfl)
     obtain ⟨T359, X359, e359, go359⟩ := gF go358 X355 hx hZ hown (own_w hw 261 rfl) e355 F357.2.1 (H 133 rfl)
     have go360 := (s_ior (s_iconst (s_ifYes (s_iload go359 X359 hx (H 134 rfl) rfl) X359 hx (H 135 rfl) (pc' := 241) rfl (by decide) ((if0 _ _).trans (flt (by decide : ¬ ((1 : Int32) < 0))).2.1)) X359 hx (H 136 rfl) (v := 0) rfl) X359 hx (H 137 rfl))
     obtain ⟨T361, h361, X361, e361, W361, go361⟩ := w_2 go360 (putFN X359 hx hZ hown (own_w hw 261 rfl) Via.refl e359 F357.2.1 F357.1 (Or.inl (own_w hw 262 rfl)) (own_w hw 71 rfl) (ty := .boolean) (v' := (.int (nar .boolean (ph ||| (0 : Int32))))) pf_2 rfl (fits_nar_bool _) (g := mkF m _ _ _) rfl rfl (H 138 rfl))
     have Fw361 := F357.self W361
     have P362 : Pres Z a0 _ _ _ := Pres.fIx (by decide) F357 W361 (by decide)
     have KN362 := KN352.trans (KN.wr W361 g2)
     have Z362 := Nat.le_trans Z352 P362.1
     have N361 := Fr.snoc X361 N351 g2
     refine own_f0 (Q := Q27 Z a0 a1 p2 p3 p4 a5 oA vs oP cx u sx sz ph h0 n0) Bd.notSynchronized hx Bd.returns pre0 X361 go361 (H 139 rfl) e361 (by decide) (by decide) ?_
     exact ⟨rfl, N361, KN362, ((((P255.trans P273).trans P291).trans P352).trans P362)⟩
    have ihc164_286 := n_nltI (n_add (n_add (n_add (n_mul1 (nr p3) nl1) nl0 (by omega)) nl1 (by omega)) nl1 (by omega)) (n_mul1 (nr p4) nl1) hc164_286
    have U363 := P255.trans P273
    have F364 := U363.fe F3 (nS rfl)
    have go365 := (s_aloadN (s_icmpYes go285 X284 hx (H 97 rfl) (pc' := 204) rfl (by decide) (flt hc164_286).2.1) X284 hx (H 119 rfl) rfl rfl)
    obtain ⟨T366, X366, e366, go366⟩ := gF go365 X284 hx hZ hown (own_w hw 117 rfl) e284 F364.2.1 (H 120 rfl)
    have go367 := (s_aloadN (s_iloadN go366 X366 hx (H 121 rfl) rfl) X366 hx (H 122 rfl) rfl rfl)
    obtain ⟨T368, X368, e368, go368⟩ := gF go367 X366 hx hZ hown (own_w hw 57 rfl) e366 F280.2.1 (H 123 rfl)
    have F369 := U363.lj L1
    have go370 := (s_lload (s_iadd (s_iload (s_imul go368 X368 hx (H 124 rfl)) X368 hx (H 125 rfl) rfl) X368 hx (H 126 rfl)) X368 hx (H 127 rfl) rfl)
    obtain ⟨T371, h371, X371, e371, W371, go371⟩ := sJ go370 X368 hx hZ e368 F369 (n_in (n_add (n_mul1 (nr p2) nl1) nl0 (by omega)) nl4 (by omega)) (H 128 rfl)
    have P372 : Pres Z a0 _ _ _ := Pres.wrJ F369 W371
    have KN372 := KN273.trans (KN.wr W371 g1)
    have Z372 := Nat.le_trans Z273 P372.1
    have N371 := Fr.snoc X371 N278 g1
    have F373 := P372.fe F280 (nS rfl)
    have go374 := (s_aloadN (s_iload (s_goto (s_iinc go371 X371 hx (H 129 rfl) rfl (L' := #[vr a1, vi p2, vi p3, vi p4, vr a5, vi 1, vr cx, vr u, vi 1, vj ((1 : Int64) * (x234.toInt64)), .second, vj x238, .second, vj (f2 (f2 x244 (x258 + x238)) (x276 + x238)), .second, vi ((((p3 * 1) + 0) + 1) + 1)]) rfl) X371 hx (H 130 rfl) (pc' := 98) rfl (by decide)) X371 hx (H 58 rfl) rfl) X371 hx (H 59 rfl) rfl rfl)
    obtain ⟨T375, X375, e375, go375⟩ := gF go374 X371 hx hZ hown (own_w hw 57 rfl) e371 F373.2.1 (H 60 rfl)
    have U376 := P255.trans (P273.trans P372)
    have F377 := U376.fe F7 (nS rfl)
    have go378 := (s_dup (s_aload (s_icmpYes go375 X375 hx (H 61 rfl) (pc' := 226) rfl (by decide) (flt (by decide : ¬ ((1 : Int32) < 1))).2.1) X375 hx (H 131 rfl) rfl rfl) X375 hx (H 132 rfl) rfl)
    obtain ⟨T379, X379, e379, go379⟩ := gF go378 X375 hx hZ hown (own_w hw 261 rfl) e375 F377.2.1 (H 133 rfl)
    have go380 := (s_ior (s_iconst (s_ifYes (s_iload go379 X379 hx (H 134 rfl) rfl) X379 hx (H 135 rfl) (pc' := 241) rfl (by decide) ((if0 _ _).trans (flt (by decide : ¬ ((1 : Int32) < 0))).2.1)) X379 hx (H 136 rfl) (v := 0) rfl) X379 hx (H 137 rfl))
    obtain ⟨T381, h381, X381, e381, W381, go381⟩ := w_2 go380 (putFN X379 hx hZ hown (own_w hw 261 rfl) Via.refl e379 F377.2.1 F377.1 (Or.inl (own_w hw 262 rfl)) (own_w hw 71 rfl) (ty := .boolean) (v' := (.int (nar .boolean (ph ||| (0 : Int32))))) pf_2 rfl (fits_nar_bool _) (g := mkF m _ _ _) rfl rfl (H 138 rfl))
    have Fw381 := F377.self W381
    have P382 : Pres Z a0 _ _ _ := Pres.fIx (by decide) F377 W381 (by decide)
    have KN382 := KN372.trans (KN.wr W381 g2)
    have Z382 := Nat.le_trans Z372 P382.1
    have N381 := Fr.snoc X381 N371 g2
    refine own_f0 (Q := Q27 Z a0 a1 p2 p3 p4 a5 oA vs oP cx u sx sz ph h0 n0) Bd.notSynchronized hx Bd.returns pre0 X381 go381 (H 139 rfl) e381 (by decide) (by decide) ?_
    exact ⟨rfl, N381, KN382, (((P255.trans P273).trans P372).trans P382)⟩
   have ihc164_268 := n_nltI (n_add (n_add (n_mul1 (nr p3) nl1) nl0 (by omega)) nl1 (by omega)) (n_mul1 (nr p4) nl1) hc164_268
   have F383 := P255.fe F3 (nS rfl)
   have go384 := (s_aloadN (s_icmpYes go267 X266 hx (H 97 rfl) (pc' := 204) rfl (by decide) (flt hc164_268).2.1) X266 hx (H 119 rfl) rfl rfl)
   obtain ⟨T385, X385, e385, go385⟩ := gF go384 X266 hx hZ hown (own_w hw 117 rfl) e266 F383.2.1 (H 120 rfl)
   have go386 := (s_aloadN (s_iloadN go385 X385 hx (H 121 rfl) rfl) X385 hx (H 122 rfl) rfl rfl)
   obtain ⟨T387, X387, e387, go387⟩ := gF go386 X385 hx hZ hown (own_w hw 57 rfl) e385 F262.2.1 (H 123 rfl)
   have F388 := P255.lj L1
   have go389 := (s_lload (s_iadd (s_iload (s_imul go387 X387 hx (H 124 rfl)) X387 hx (H 125 rfl) rfl) X387 hx (H 126 rfl)) X387 hx (H 127 rfl) rfl)
   obtain ⟨T390, h390, X390, e390, W390, go390⟩ := sJ go389 X387 hx hZ e387 F388 (n_in (n_add (n_mul1 (nr p2) nl1) nl0 (by omega)) nl4 (by omega)) (H 128 rfl)
   have P391 : Pres Z a0 _ _ _ := Pres.wrJ F388 W390
   have KN391 := KN255.trans (KN.wr W390 g1)
   have Z391 := Nat.le_trans Z255 P391.1
   have N390 := Fr.snoc X390 N260 g1
   have F392 := P391.fe F262 (nS rfl)
   have go393 := (s_aloadN (s_iload (s_goto (s_iinc go390 X390 hx (H 129 rfl) rfl (L' := #[vr a1, vi p2, vi p3, vi p4, vr a5, vi 1, vr cx, vr u, vi 1, vj ((1 : Int64) * (x234.toInt64)), .second, vj x238, .second, vj (f2 x244 (x258 + x238)), .second, vi (((p3 * 1) + 0) + 1)]) rfl) X390 hx (H 130 rfl) (pc' := 98) rfl (by decide)) X390 hx (H 58 rfl) rfl) X390 hx (H 59 rfl) rfl rfl)
   obtain ⟨T394, X394, e394, go394⟩ := gF go393 X390 hx hZ hown (own_w hw 57 rfl) e390 F392.2.1 (H 60 rfl)
   have U395 := P255.trans P391
   have F396 := U395.fe F7 (nS rfl)
   have go397 := (s_dup (s_aload (s_icmpYes go394 X394 hx (H 61 rfl) (pc' := 226) rfl (by decide) (flt (by decide : ¬ ((1 : Int32) < 1))).2.1) X394 hx (H 131 rfl) rfl rfl) X394 hx (H 132 rfl) rfl)
   obtain ⟨T398, X398, e398, go398⟩ := gF go397 X394 hx hZ hown (own_w hw 261 rfl) e394 F396.2.1 (H 133 rfl)
   have go399 := (s_ior (s_iconst (s_ifYes (s_iload go398 X398 hx (H 134 rfl) rfl) X398 hx (H 135 rfl) (pc' := 241) rfl (by decide) ((if0 _ _).trans (flt (by decide : ¬ ((1 : Int32) < 0))).2.1)) X398 hx (H 136 rfl) (v := 0) rfl) X398 hx (H 137 rfl))
   obtain ⟨T400, h400, X400, e400, W400, go400⟩ := w_2 go399 (putFN X398 hx hZ hown (own_w hw 261 rfl) Via.refl e398 F396.2.1 F396.1 (Or.inl (own_w hw 262 rfl)) (own_w hw 71 rfl) (ty := .boolean) (v' := (.int (nar .boolean (ph ||| (0 : Int32))))) pf_2 rfl (fits_nar_bool _) (g := mkF m _ _ _) rfl rfl (H 138 rfl))
   have Fw400 := F396.self W400
   have P401 : Pres Z a0 _ _ _ := Pres.fIx (by decide) F396 W400 (by decide)
   have KN401 := KN391.trans (KN.wr W400 g2)
   have Z401 := Nat.le_trans Z391 P401.1
   have N400 := Fr.snoc X400 N390 g2
   refine own_f0 (Q := Q27 Z a0 a1 p2 p3 p4 a5 oA vs oP cx u sx sz ph h0 n0) Bd.notSynchronized hx Bd.returns pre0 X400 go400 (H 139 rfl) e400 (by decide) (by decide) ?_
   exact ⟨rfl, N400, KN401, ((P255.trans P391).trans P401)⟩
  have ihc164_250 := n_nltI (n_add (n_mul1 (nr p3) nl1) nl0 (by omega)) (n_mul1 (nr p4) nl1) hc164_250
  have go402 := (s_aloadN (s_icmpYes go249 X248 hx (H 97 rfl) (pc' := 204) rfl (by decide) (flt hc164_250).2.1) X248 hx (H 119 rfl) rfl rfl)
  obtain ⟨T403, X403, e403, go403⟩ := gF go402 X248 hx hZ hown (own_w hw 117 rfl) e248 F3.2.1 (H 120 rfl)
  have go404 := (s_aloadN (s_iloadN go403 X403 hx (H 121 rfl) rfl) X403 hx (H 122 rfl) rfl rfl)
  obtain ⟨T405, X405, e405, go405⟩ := gF go404 X403 hx hZ hown (own_w hw 57 rfl) e403 F2.2.1 (H 123 rfl)
  have go406 := (s_lload (s_iadd (s_iload (s_imul go405 X405 hx (H 124 rfl)) X405 hx (H 125 rfl) rfl) X405 hx (H 126 rfl)) X405 hx (H 127 rfl) rfl)
  obtain ⟨T407, h407, X407, e407, W407, go407⟩ := sJ go406 X405 hx hZ e405 L1 (n_in (n_add (n_mul1 (nr p2) nl1) nl0 (by omega)) nl4 (by omega)) (H 128 rfl)
  have P408 : Pres Z a0 _ _ _ := Pres.wrJ L1 W407
  have KN408 := KN0.trans (KN.wr W407 g1)
  have Z408 := Nat.le_trans Z0 P408.1
  have N407 := Fr.snoc X407 N0 g1
  have F409 := P408.fe F2 (nS rfl)
  have go410 := (s_aloadN (s_iload (s_goto (s_iinc go407 X407 hx (H 129 rfl) rfl (L' := #[vr a1, vi p2, vi p3, vi p4, vr a5, vi 1, vr cx, vr u, vi 1, vj ((1 : Int64) * (x234.toInt64)), .second, vj x238, .second, vj x244, .second, vi ((p3 * 1) + 0)]) rfl) X407 hx (H 130 rfl) (pc' := 98) rfl (by decide)) X407 hx (H 58 rfl) rfl) X407 hx (H 59 rfl) rfl rfl)
  obtain ⟨T411, X411, e411, go411⟩ := gF go410 X407 hx hZ hown (own_w hw 57 rfl) e407 F409.2.1 (H 60 rfl)
  have F412 := P408.fe F7 (nS rfl)
  have go413 := (s_dup (s_aload (s_icmpYes go411 X411 hx (H 61 rfl) (pc' := 226) rfl (by decide) (flt (by decide : ¬ ((1 : Int32) < 1))).2.1) X411 hx (H 131 rfl) rfl rfl) X411 hx (H 132 rfl) rfl)
  obtain ⟨T414, X414, e414, go414⟩ := gF go413 X411 hx hZ hown (own_w hw 261 rfl) e411 F412.2.1 (H 133 rfl)
  have go415 := (s_ior (s_iconst (s_ifYes (s_iload go414 X414 hx (H 134 rfl) rfl) X414 hx (H 135 rfl) (pc' := 241) rfl (by decide) ((if0 _ _).trans (flt (by decide : ¬ ((1 : Int32) < 0))).2.1)) X414 hx (H 136 rfl) (v := 0) rfl) X414 hx (H 137 rfl))
  obtain ⟨T416, h416, X416, e416, W416, go416⟩ := w_2 go415 (putFN X414 hx hZ hown (own_w hw 261 rfl) Via.refl e414 F412.2.1 F412.1 (Or.inl (own_w hw 262 rfl)) (own_w hw 71 rfl) (ty := .boolean) (v' := (.int (nar .boolean (ph ||| (0 : Int32))))) pf_2 rfl (fits_nar_bool _) (g := mkF m _ _ _) rfl rfl (H 138 rfl))
  have Fw416 := F412.self W416
  have P417 : Pres Z a0 _ _ _ := Pres.fIx (by decide) F412 W416 (by decide)
  have KN417 := KN408.trans (KN.wr W416 g2)
  have Z417 := Nat.le_trans Z408 P417.1
  have N416 := Fr.snoc X416 N407 g2
  refine own_f0 (Q := Q27 Z a0 a1 p2 p3 p4 a5 oA vs oP cx u sx sz ph h0 n0) Bd.notSynchronized hx Bd.returns pre0 X416 go416 (H 139 rfl) e416 (by decide) (by decide) ?_
  exact ⟨rfl, N416, KN417, (P408.trans P417)⟩

def dt8 : List (Nat × Instr × Nat) := [(0, .aload_n 0, 1), (1, .aload_n 1, 1), (2, .putfield 1, 3), (5, .aload_n 0, 1), (6, .invokespecial 7, 3), (9, .aload_n 0, 1), (10, .aload_n 0, 1), (11, .getfield 1, 3), (14, .getfield 13, 3), (17, .anewarray 19, 3), (20, .putfield 21, 3), (23, .return_, 1)]
theorem dk8 : ∀ x ∈ dt8, decode prog_100_method_1_code x.1 = .ok x.2 := by decide +kernel
theorem pn_8 : plainName "com/example/slackline/slackline/replay/Steps$Block" = true := by first | (simp [plainName, overriddenIn]; done) | decide +kernel
theorem ef_8 (m : MethodId) (x0 : Addr) (x1 : Addr) : entryFrame m #[(.ref x0), (.ref x1)] 2 = mkF m 0 #[vr x0, vr x1] [] := by first | (simp [entryFrame, mkF, argsToLocals, Value.category]; done) | rfl
def Q8 (Z : State) (a0 : Array Value) (a1 : Addr) (a2 : Addr) (h0 : Heap) (n0 : Nat) (v : Option Value) (h : Heap) (L : List Loc) : Prop := v = none ∧ Fr n0 L ∧ KN n0 h0 h ∧ Pres Z a0 h0 h [(a1, "this$0"), (a1, "runs")]
set_option maxRecDepth 65536 in
set_option maxHeartbeats 40000000 in
theorem rm8 (l : Launch) (Z : State) (a0 : Array Value) (hw : ∀ d ∈ tables_1, d.before a0 Z = true) (ws : List Jvm.Cond) (a1 : Addr) (a2 : Addr) (h0 : Heap) (n0 : Nat) (Z0 : n0 ≤ h0.size) (F1 : FE Z a0 h0 a1 nBl "this$0" "Lcom/example/slackline/slackline/replay/Steps;" .null) (F2 : FE Z a0 h0 a1 nBl "runs" "[Lcom/example/slackline/slackline/replay/Steps$FreeRuns;" .null) (F3 : FE Z a0 h0 a2 nSt "kinds" "I" (.int 1)) (g1 : n0 ≤ a1) :
    MetFree l y_10 (head1 (Jvm.Cond.code y_10 prog_100_method_1_code 2 none :: ws) ({ frames := 1, cells := 1, slots := 1, locals := 12 } : Room)) (fun a U => a = #[(.ref a1), (.ref a2)] ∧ Z.Warmed39 U.vm ∧ U.heap = h0) (fun _ _ _ _ _ => True) (fun _ U o U' => ∃ v L, o = .returned v ∧ Q8 Z a0 a1 a2 h0 n0 v U'.heap L ∧ FrameEnd U o U' L ({ frames := 1, cells := 1, slots := 1, locals := 12 } : Room).cells ({ frames := 1, cells := 1, slots := 1, locals := 12 } : Room).slots) := by
  refine MetFree.of_bodySF (plainFor_of_name pn_8) hisR ?_
  intro p e s m args below meth c s₁ Bd hml0 hP hK
  obtain ⟨rfl, hZ, hh⟩ := hP
  have hx := Bd.exec
  have hby := Bd.bytes
  have hml : c.maxLocals = 2 := hml0
  have hown : s.vm.findClass "com/example/slackline/slackline/replay/Steps$Block" = some m.cls := findClass_of_methodNamed Bd.named
  have hnm := (name_of_methodNamed Bd.named Bd.method).1
  have X0 : Stand p l e ({ frames := 1, cells := 1, slots := 1, locals := 12 } : Room) s m #[(.ref a1), (.ref a2)] below meth c s₁ [] 0 0 := Stand.of_body Bd
  have e0 : s₁.heap = h0 := by rw [← hh, Bd.state]; rfl
  have N0 := Fr.nil n0
  have H : ∀ (k : Nat) {i : Nat} {r : Instr × Nat}, dt8[k]? = some (i, r) → decode c.code i = .ok r := fun _ i r q => hb hby (dk8 (i, r) (List.mem_of_getElem? q))
  have KN0 : KN n0 h0 h0 := KN.refl n0 h0
  have PP0 : Pres Z a0 h0 h0 [] := Pres.refl Z a0 h0
  obtain ⟨F0, hF0⟩ : ∃ F : JFrame, F = entryFrame m #[(.ref a1), (.ref a2)] 2 := ⟨_, rfl⟩
  have pre0 : ∀ t, Steps p.tables e below (s₁.setTop F0) t → Steps p.tables e below (s₁.setTop (entryFrame m #[(.ref a1), (.ref a2)] 2)) t := fun t k => hF0 ▸ k
  have go0 : Go p e below s₁ F0 s₁ (mkF m 0 #[vr a1, vr a2] []) := fun t k => castTop (hF0.trans (ef_8 m a1 a2)) k
  have go1 := (s_aloadN (s_aloadN go0 X0 hx (H 0 rfl) rfl rfl) X0 hx (H 1 rfl) rfl rfl)
  obtain ⟨T2, h2, X2, e2, W2, go2⟩ := pF go1 X0 hx hZ hown (own_w hw 79 rfl) e0 F1 (Or.inr ⟨(own_w hw 80 rfl), rfl, hnm⟩) pf_3 rfl rfl (H 2 rfl)
  have Fw2 := F1.self W2
  have P3 : Pres Z a0 _ _ _ := Pres.fS F1 W2 (by decide)
  have KN3 := KN0.trans (KN.wr W2 g1)
  have Z3 := Nat.le_trans Z0 P3.1
  have N2 := Fr.snoc X2 N0 g1
  have go4 := (s_aloadN go2 X2 hx (H 3 rfl) rfl rfl)
  obtain ⟨T5, X5, e5, go5⟩ := w_1 go4 (initO X2 hx hZ hown (own_w hw 81 rfl) (own_w hw 17 rfl) (own_w hw 18 rfl) e2 (g := mkF m _ _ _) rfl (by rw [hml]; rfl) rfl (H 4 rfl) (by decide) (W := 0) (by show 2 * 0 + _ ≤ _; exact Nat.le_of_eq rfl) (by decide))
  have go6 := (s_aloadN (s_aloadN go5 X5 hx (H 5 rfl) rfl rfl) X5 hx (H 6 rfl) rfl rfl)
  obtain ⟨T7, X7, e7, go7⟩ := gF go6 X5 hx hZ hown (own_w hw 79 rfl) e5 Fw2.2.1 (H 7 rfl)
  have F8 := P3.fe F3 (nS rfl)
  obtain ⟨T9, X9, e9, go9⟩ := gN go7 X7 hx hZ hown (own_w hw 82 rfl) e7 F8.2.1 (H 8 rfl)
  obtain ⟨T10, h10, k10, X10, e10, E10, A10, O10, go10⟩ := w_3b go9 (newR X9 hx hZ hown (own_w hw 83 rfl) (own_w hw 84 rfl) e9 (g := mkF m _ _ _) rfl (H 9 rfl) rfl (by decide) (cap := 1) (by decide) (by decide) (by decide) (by decide))
  obtain ⟨b10, gz10⟩ : ∃ z, z = h2.size := ⟨_, rfl⟩
  rw [← gz10] at A10 go10
  have l11 := Nat.lt_of_lt_of_le Fw2.lt (Nat.le_of_eq gz10.symm)
  have l12 := Nat.lt_of_lt_of_le F8.lt (Nat.le_of_eq gz10.symm)
  have g_b10 := Nat.le_trans Z3 (Nat.le_of_eq gz10.symm)
  have sz_b10 := Nat.le_trans KN3.1 (Nat.le_of_eq gz10.symm)
  have P13 : Pres Z a0 _ _ _ := Pres.ext E10
  have KN13 := KN3.trans (KN.ext E10 Z3)
  have Z13 := Nat.le_trans Z3 P13.1
  have U14 := P3.trans P13
  have F15 := U14.fe F2 (nS rfl)
  obtain ⟨T16, h16, X16, e16, W16, go16⟩ := pF go10 X10 hx hZ hown (own_w hw 85 rfl) e10 F15 (Or.inr ⟨(own_w hw 86 rfl), rfl, hnm⟩) pf_4 rfl rfl (H 10 rfl)
  have Fw16 := F15.self W16
  have P17 : Pres Z a0 _ _ _ := Pres.fS F15 W16 (by decide)
  have KN17 := KN13.trans (KN.wr W16 g1)
  have Z17 := Nat.le_trans Z13 P17.1
  have N16 := Fr.snoc X16 N2 g1
  refine own_f0 (Q := Q8 Z a0 a1 a2 h0 n0) Bd.notSynchronized hx Bd.returns pre0 X16 go16 (H 11 rfl) e16 (by decide) (by decide) ?_
  exact ⟨rfl, N16, KN17, ((P3.trans P13).trans P17)⟩

def dt9 : List (Nat × Instr × Nat) := [(0, .aload_n 0, 1), (1, .aload_n 1, 1), (2, .putfield 1, 3), (5, .aload_n 0, 1), (6, .invokespecial 7, 3), (9, .aload_n 0, 1), (10, .aload_n 0, 1), (11, .getfield 1, 3), (14, .getfield 13, 3), (17, .newarray .long, 2), (19, .putfield 19, 3), (22, .aload_n 0, 1), (23, .aload_n 0, 1), (24, .getfield 1, 3), (27, .getfield 13, 3), (30, .aload_n 0, 1), (31, .getfield 1, 3), (34, .getfield 23, 3), (37, .imul, 1), (38, .newarray .long, 2), (40, .putfield 26, 3), (43, .aload_n 0, 1), (44, .aload_n 0, 1), (45, .getfield 1, 3), (48, .getfield 23, 3), (51, .newarray .long, 2), (53, .putfield 29, 3), (56, .aload_n 0, 1), (57, .aload_n 0, 1), (58, .getfield 1, 3), (61, .getfield 13, 3), (64, .newarray .int, 2), (66, .putfield 32, 3), (69, .aload_n 0, 1), (70, .aload_n 0, 1), (71, .getfield 1, 3), (74, .getfield 23, 3), (77, .anewarray 36, 3), (80, .putfield 38, 3), (83, .aload_n 0, 1), (84, .aload_n 2, 1), (85, .putfield 42, 3), (88, .aload_n 2, 1), (89, .dup, 1), (90, .getfield 46, 3), (93, .iconst 1, 1), (94, .iadd, 1), (95, .putfield 46, 3), (98, .aload_n 2, 1), (99, .dup, 1), (100, .getfield 51, 3), (103, .lconst 1, 1), (104, .ladd, 1), (105, .putfield 51, 3), (108, .return_, 1)]
theorem dk9 : ∀ x ∈ dt9, decode prog_101_method_1_code x.1 = .ok x.2 := by decide +kernel
theorem pn_9 : plainName "com/example/slackline/slackline/replay/Steps$Chunk" = true := by first | (simp [plainName, overriddenIn]; done) | decide +kernel
theorem ef_9 (m : MethodId) (x0 : Addr) (x1 : Addr) (x2 : Addr) : entryFrame m #[(.ref x0), (.ref x1), (.ref x2)] 3 = mkF m 0 #[vr x0, vr x1, vr x2] [] := by first | (simp [entryFrame, mkF, argsToLocals, Value.category]; done) | rfl
def Q9 (Z : State) (a0 : Array Value) (a1 : Addr) (a2 : Addr) (a3 : Addr) (bc : Int32) (bv : Int64) (h0 : Heap) (n0 : Nat) (v : Option Value) (h : Heap) (L : List Loc) : Prop := ∃ t : Addr, ∃ u : Addr, ∃ s : Addr, ∃ f : Addr, ∃ bv2 : Int64, v = none ∧ Fr n0 L ∧ KN n0 h0 h ∧ Pres Z a0 h0 h [(a1, "this$0"), (a1, "time"), (a1, "inUse"), (a1, "shared"), (a1, "finishing"), (a1, "runs"), (a1, "block"), (a3, "count"), (a3, "version")] ∧ FE Z a0 h a1 nCh "time" "[J" (.ref t) ∧ LJ Z h t (4 : Int32) ∧ FE Z a0 h a1 nCh "inUse" "[J" (.ref u) ∧ LJ Z h u (4 : Int32) ∧ FE Z a0 h a1 nCh "shared" "[J" (.ref s) ∧ LJ Z h s (1 : Int32) ∧ FE Z a0 h a1 nCh "finishing" "[I" (.ref f) ∧ LI Z h f (4 : Int32) ∧ FE Z a0 h a1 nCh "block" dBl (.ref a3) ∧ FE Z a0 h a3 nBl "count" "I" (.int (bc + 1)) ∧ FE Z a0 h a3 nBl "version" "J" (.long bv2) ∧ n0 ≤ t ∧ n0 ≤ u ∧ n0 ≤ s ∧ n0 ≤ f
set_option maxRecDepth 65536 in
set_option maxHeartbeats 40000000 in
theorem rm9 (l : Launch) (Z : State) (a0 : Array Value) (hw : ∀ d ∈ tables_1, d.before a0 Z = true) (ws : List Jvm.Cond) (a1 : Addr) (a2 : Addr) (a3 : Addr) (bc : Int32) (bv : Int64) (h0 : Heap) (n0 : Nat) (Z0 : n0 ≤ h0.size) (F_this0 : FE Z a0 h0 a1 nCh "this$0" "Lcom/example/slackline/slackline/replay/Steps;" .null) (F_time : FE Z a0 h0 a1 nCh "time" "[J" .null) (F_inUse : FE Z a0 h0 a1 nCh "inUse" "[J" .null) (F_shared : FE Z a0 h0 a1 nCh "shared" "[J" .null) (F_finishing : FE Z a0 h0 a1 nCh "finishing" "[I" .null) (F_runs : FE Z a0 h0 a1 nCh "runs" "[Lcom/example/slackline/slackline/replay/Steps$FreeRuns;" .null) (F_block : FE Z a0 h0 a1 nCh "block" dBl .null) (F1 : FE Z a0 h0 a2 nSt "kinds" "I" (.int 1)) (F2 : FE Z a0 h0 a2 nSt "chunkSize" "I" (.int 4)) (F3 : FE Z a0 h0 a3 nBl "count" "I" (.int bc)) (F4 : FE Z a0 h0 a3 nBl "version" "J" (.long bv)) (g1 : n0 ≤ a1) (g2 : n0 ≤ a3) :
    MetFree l y_11 (head1 (Jvm.Cond.code y_11 prog_101_method_1_code 3 none :: ws) ({ frames := 1, cells := 5, slots := 14, locals := 12 } : Room)) (fun a U => a = #[(.ref a1), (.ref a2), (.ref a3)] ∧ Z.Warmed39 U.vm ∧ U.heap = h0) (fun _ _ _ _ _ => True) (fun _ U o U' => ∃ v L, o = .returned v ∧ Q9 Z a0 a1 a2 a3 bc bv h0 n0 v U'.heap L ∧ FrameEnd U o U' L ({ frames := 1, cells := 5, slots := 14, locals := 12 } : Room).cells ({ frames := 1, cells := 5, slots := 14, locals := 12 } : Room).slots) := by
  refine MetFree.of_bodySF (plainFor_of_name pn_9) hisR ?_
  intro p e s m args below meth c s₁ Bd hml0 hP hK
  obtain ⟨rfl, hZ, hh⟩ := hP
  have hx := Bd.exec
  have hby := Bd.bytes
  have hml : c.maxLocals = 3 := hml0
  have hown : s.vm.findClass "com/example/slackline/slackline/replay/Steps$Chunk" = some m.cls := findClass_of_methodNamed Bd.named
  have hnm := (name_of_methodNamed Bd.named Bd.method).1
  have X0 : Stand p l e ({ frames := 1, cells := 5, slots := 14, locals := 12 } : Room) s m #[(.ref a1), (.ref a2), (.ref a3)] below meth c s₁ [] 0 0 := Stand.of_body Bd
  have e0 : s₁.heap = h0 := by rw [← hh, Bd.state]; rfl
  have N0 := Fr.nil n0
  have H : ∀ (k : Nat) {i : Nat} {r : Instr × Nat}, dt9[k]? = some (i, r) → decode c.code i = .ok r := fun _ i r q => hb hby (dk9 (i, r) (List.mem_of_getElem? q))
  have KN0 : KN n0 h0 h0 := KN.refl n0 h0
  have PP0 : Pres Z a0 h0 h0 [] := Pres.refl Z a0 h0
  obtain ⟨F0, hF0⟩ : ∃ F : JFrame, F = entryFrame m #[(.ref a1), (.ref a2), (.ref a3)] 3 := ⟨_, rfl⟩
  have pre0 : ∀ t, Steps p.tables e below (s₁.setTop F0) t → Steps p.tables e below (s₁.setTop (entryFrame m #[(.ref a1), (.ref a2), (.ref a3)] 3)) t := fun t k => hF0 ▸ k
  have go0 : Go p e below s₁ F0 s₁ (mkF m 0 #[vr a1, vr a2, vr a3] []) := fun t k => castTop (hF0.trans (ef_9 m a1 a2 a3)) k
  have go1 := (s_aloadN (s_aloadN go0 X0 hx (H 0 rfl) rfl rfl) X0 hx (H 1 rfl) rfl rfl)
  obtain ⟨T2, h2, X2, e2, W2, go2⟩ := pF go1 X0 hx hZ hown (own_w hw 90 rfl) e0 F_this0 (Or.inr ⟨(own_w hw 91 rfl), rfl, hnm⟩) pf_3 rfl rfl (H 2 rfl)
  have Fw2 := F_this0.self W2
  have P3 : Pres Z a0 _ _ _ := Pres.fS F_this0 W2 (by decide)
  have KN3 := KN0.trans (KN.wr W2 g1)
  have Z3 := Nat.le_trans Z0 P3.1
  have N2 := Fr.snoc X2 N0 g1
  have go4 := (s_aloadN go2 X2 hx (H 3 rfl) rfl rfl)
  obtain ⟨T5, X5, e5, go5⟩ := w_1 go4 (initO X2 hx hZ hown (own_w hw 92 rfl) (own_w hw 17 rfl) (own_w hw 18 rfl) e2 (g := mkF m _ _ _) rfl (by rw [hml]; rfl) rfl (H 4 rfl) (by decide) (W := 0) (by show 2 * 0 + _ ≤ _; exact Nat.le_of_eq rfl) (by decide))
  have go6 := (s_aloadN (s_aloadN go5 X5 hx (H 5 rfl) rfl rfl) X5 hx (H 6 rfl) rfl rfl)
  obtain ⟨T7, X7, e7, go7⟩ := gF go6 X5 hx hZ hown (own_w hw 90 rfl) e5 Fw2.2.1 (H 7 rfl)
  have F8 := P3.fe F2 (nS rfl)
  obtain ⟨T9, X9, e9, go9⟩ := gN go7 X7 hx hZ hown (own_w hw 93 rfl) e7 F8.2.1 (H 8 rfl)
  obtain ⟨T10, h10, k10, X10, e10, E10, A10, go10⟩ := w_3 go9 (newP X9 hx hZ (own_w hw 19 rfl) e9 (g := mkF m _ _ _) rfl (H 9 rfl) rfl (by decide) (cap := 4) (by decide) (by decide) (by decide) (by decide))
  obtain ⟨b10, gz10⟩ : ∃ z, z = h2.size := ⟨_, rfl⟩
  rw [← gz10] at A10 go10
  have l11 := Nat.lt_of_lt_of_le Fw2.lt (Nat.le_of_eq gz10.symm)
  have F12 := P3.fe F1 (nS rfl)
  have l13 := Nat.lt_of_lt_of_le F12.lt (Nat.le_of_eq gz10.symm)
  have F14 := P3.fe F3 (nS rfl)
  have l15 := Nat.lt_of_lt_of_le F14.lt (Nat.le_of_eq gz10.symm)
  have g_b10 := Nat.le_trans Z3 (Nat.le_of_eq gz10.symm)
  have sz_b10 := Nat.le_trans KN3.1 (Nat.le_of_eq gz10.symm)
  have P16 : Pres Z a0 _ _ _ := Pres.ext E10
  have KN16 := KN3.trans (KN.ext E10 Z3)
  have Z16 := Nat.le_trans Z3 P16.1
  have V10 : LJ Z h10 b10 (4 : Int32) := LJ.of_arv (Arv.new A10 (by decide))
  have U17 := P3.trans P16
  have F18 := U17.fe F_time (nS rfl)
  obtain ⟨T19, h19, X19, e19, W19, go19⟩ := pF go10 X10 hx hZ hown (own_w hw 94 rfl) e10 F18 (Or.inr ⟨(own_w hw 95 rfl), rfl, hnm⟩) pf_5 rfl rfl (H 10 rfl)
  have Fw19 := F18.self W19
  have P20 : Pres Z a0 _ _ _ := Pres.fS F18 W19 (by decide)
  have KN20 := KN16.trans (KN.wr W19 g1)
  have Z20 := Nat.le_trans Z16 P20.1
  have N19 := Fr.snoc X19 N2 g1
  have U21 := P16.trans P20
  have F22 := U21.fe Fw2 (nS rfl)
  have go23 := (s_aloadN (s_aloadN go19 X19 hx (H 11 rfl) rfl rfl) X19 hx (H 12 rfl) rfl rfl)
  obtain ⟨T24, X24, e24, go24⟩ := gF go23 X19 hx hZ hown (own_w hw 90 rfl) e19 F22.2.1 (H 13 rfl)
  have F25 := U21.fe F8 (nS rfl)
  obtain ⟨T26, X26, e26, go26⟩ := gN go24 X24 hx hZ hown (own_w hw 93 rfl) e24 F25.2.1 (H 14 rfl)
  have go27 := (s_aloadN go26 X26 hx (H 15 rfl) rfl rfl)
  obtain ⟨T28, X28, e28, go28⟩ := gF go27 X26 hx hZ hown (own_w hw 90 rfl) e26 F22.2.1 (H 16 rfl)
  have F29 := U21.fe F12 (nS rfl)
  obtain ⟨T30, X30, e30, go30⟩ := gN go28 X28 hx hZ hown (own_w hw 96 rfl) e28 F29.2.1 (H 17 rfl)
  have go31 := (s_imulE go30 X30 hx (H 18 rfl) (v := 4) rfl)
  obtain ⟨T32, h32, k32, X32, e32, E32, A32, go32⟩ := w_3 go31 (newP X30 hx hZ (own_w hw 19 rfl) e30 (g := mkF m _ _ _) rfl (H 19 rfl) rfl (by decide) (cap := 4) (by decide) (by decide) (by decide) (by decide))
  obtain ⟨b32, gz32⟩ : ∃ z, z = h19.size := ⟨_, rfl⟩
  rw [← gz32] at A32 go32
  have l33 := Nat.lt_of_lt_of_le F22.lt (Nat.le_of_eq gz32.symm)
  have l34 := Nat.lt_of_lt_of_le F29.lt (Nat.le_of_eq gz32.symm)
  have F35 := U21.fe F14 (nS rfl)
  have l36 := Nat.lt_of_lt_of_le F35.lt (Nat.le_of_eq gz32.symm)
  have F37 := P20.lj V10
  have l38 := Nat.lt_of_lt_of_le F37.lt (Nat.le_of_eq gz32.symm)
  have g_b32 := Nat.le_trans Z20 (Nat.le_of_eq gz32.symm)
  have sz_b32 := Nat.le_trans KN20.1 (Nat.le_of_eq gz32.symm)
  have P39 : Pres Z a0 _ _ _ := Pres.ext E32
  have KN39 := KN20.trans (KN.ext E32 Z20)
  have Z39 := Nat.le_trans Z20 P39.1
  have V32 : LJ Z h32 b32 (4 : Int32) := LJ.of_arv (Arv.new A32 (by decide))
  have U40 := P3.trans (P16.trans (P20.trans P39))
  have F41 := U40.fe F_inUse (nS rfl)
  obtain ⟨T42, h42, X42, e42, W42, go42⟩ := pF go32 X32 hx hZ hown (own_w hw 97 rfl) e32 F41 (Or.inr ⟨(own_w hw 98 rfl), rfl, hnm⟩) pf_5 rfl rfl (H 20 rfl)
  have Fw42 := F41.self W42
  have P43 : Pres Z a0 _ _ _ := Pres.fS F41 W42 (by decide)
  have KN43 := KN39.trans (KN.wr W42 g1)
  have Z43 := Nat.le_trans Z39 P43.1
  have N42 := Fr.snoc X42 N19 g1
  have U44 := P39.trans P43
  have F45 := U44.fe F22 (nS rfl)
  have go46 := (s_aloadN (s_aloadN go42 X42 hx (H 21 rfl) rfl rfl) X42 hx (H 22 rfl) rfl rfl)
  obtain ⟨T47, X47, e47, go47⟩ := gF go46 X42 hx hZ hown (own_w hw 90 rfl) e42 F45.2.1 (H 23 rfl)
  have F48 := U44.fe F29 (nS rfl)
  obtain ⟨T49, X49, e49, go49⟩ := gN go47 X47 hx hZ hown (own_w hw 96 rfl) e47 F48.2.1 (H 24 rfl)
  obtain ⟨T50, h50, k50, X50, e50, E50, A50, go50⟩ := w_3 go49 (newP X49 hx hZ (own_w hw 19 rfl) e49 (g := mkF m _ _ _) rfl (H 25 rfl) rfl (by decide) (cap := 1) (by decide) (by decide) (by decide) (by decide))
  obtain ⟨b50, gz50⟩ : ∃ z, z = h42.size := ⟨_, rfl⟩
  rw [← gz50] at A50 go50
  have l51 := Nat.lt_of_lt_of_le F45.lt (Nat.le_of_eq gz50.symm)
  have l52 := Nat.lt_of_lt_of_le F48.lt (Nat.le_of_eq gz50.symm)
  have F53 := U44.fe F35 (nS rfl)
  have l54 := Nat.lt_of_lt_of_le F53.lt (Nat.le_of_eq gz50.symm)
  have F55 := U44.lj F37
  have l56 := Nat.lt_of_lt_of_le F55.lt (Nat.le_of_eq gz50.symm)
  have F57 := P43.lj V32
  have l58 := Nat.lt_of_lt_of_le F57.lt (Nat.le_of_eq gz50.symm)
  have g_b50 := Nat.le_trans Z43 (Nat.le_of_eq gz50.symm)
  have sz_b50 := Nat.le_trans KN43.1 (Nat.le_of_eq gz50.symm)
  have P59 : Pres Z a0 _ _ _ := Pres.ext E50
  have KN59 := KN43.trans (KN.ext E50 Z43)
  have Z59 := Nat.le_trans Z43 P59.1
  have V50 : LJ Z h50 b50 (1 : Int32) := LJ.of_arv (Arv.new A50 (by decide))
  have U60 := P3.trans (P16.trans (P20.trans (P39.trans (P43.trans P59))))
  have F61 := U60.fe F_shared (nS rfl)
  obtain ⟨T62, h62, X62, e62, W62, go62⟩ := pF go50 X50 hx hZ hown (own_w hw 99 rfl) e50 F61 (Or.inr ⟨(own_w hw 100 rfl), rfl, hnm⟩) pf_5 rfl rfl (H 26 rfl)
  have Fw62 := F61.self W62
  have P63 : Pres Z a0 _ _ _ := Pres.fS F61 W62 (by decide)
  have KN63 := KN59.trans (KN.wr W62 g1)
  have Z63 := Nat.le_trans Z59 P63.1
  have N62 := Fr.snoc X62 N42 g1
  have U64 := P59.trans P63
  have F65 := U64.fe F45 (nS rfl)
  have go66 := (s_aloadN (s_aloadN go62 X62 hx (H 27 rfl) rfl rfl) X62 hx (H 28 rfl) rfl rfl)
  obtain ⟨T67, X67, e67, go67⟩ := gF go66 X62 hx hZ hown (own_w hw 90 rfl) e62 F65.2.1 (H 29 rfl)
  have U68 := P39.trans (P43.trans (P59.trans P63))
  have F69 := U68.fe F25 (nS rfl)
  obtain ⟨T70, X70, e70, go70⟩ := gN go67 X67 hx hZ hown (own_w hw 93 rfl) e67 F69.2.1 (H 30 rfl)
  obtain ⟨T71, h71, k71, X71, e71, E71, A71, go71⟩ := w_3 go70 (newP X70 hx hZ (own_w hw 9 rfl) e70 (g := mkF m _ _ _) rfl (H 31 rfl) rfl (by decide) (cap := 4) (by decide) (by decide) (by decide) (by decide))
  obtain ⟨b71, gz71⟩ : ∃ z, z = h62.size := ⟨_, rfl⟩
  rw [← gz71] at A71 go71
  have l72 := Nat.lt_of_lt_of_le F65.lt (Nat.le_of_eq gz71.symm)
  have F73 := U64.fe F48 (nS rfl)
  have l74 := Nat.lt_of_lt_of_le F73.lt (Nat.le_of_eq gz71.symm)
  have F75 := U64.fe F53 (nS rfl)
  have l76 := Nat.lt_of_lt_of_le F75.lt (Nat.le_of_eq gz71.symm)
  have F77 := U64.lj F55
  have l78 := Nat.lt_of_lt_of_le F77.lt (Nat.le_of_eq gz71.symm)
  have F79 := U64.lj F57
  have l80 := Nat.lt_of_lt_of_le F79.lt (Nat.le_of_eq gz71.symm)
  have F81 := P63.lj V50
  have l82 := Nat.lt_of_lt_of_le F81.lt (Nat.le_of_eq gz71.symm)
  have g_b71 := Nat.le_trans Z63 (Nat.le_of_eq gz71.symm)
  have sz_b71 := Nat.le_trans KN63.1 (Nat.le_of_eq gz71.symm)
  have P83 : Pres Z a0 _ _ _ := Pres.ext E71
  have KN83 := KN63.trans (KN.ext E71 Z63)
  have Z83 := Nat.le_trans Z63 P83.1
  have V71 : LI Z h71 b71 (4 : Int32) := LI.of_arv (Arv.new A71 (by decide))
  have U84 := P3.trans (P16.trans (P20.trans (P39.trans (P43.trans (P59.trans (P63.trans P83))))))
  have F85 := U84.fe F_finishing (nS rfl)
  obtain ⟨T86, h86, X86, e86, W86, go86⟩ := pF go71 X71 hx hZ hown (own_w hw 101 rfl) e71 F85 (Or.inr ⟨(own_w hw 102 rfl), rfl, hnm⟩) pf_6 rfl rfl (H 32 rfl)
  have Fw86 := F85.self W86
  have P87 : Pres Z a0 _ _ _ := Pres.fS F85 W86 (by decide)
  have KN87 := KN83.trans (KN.wr W86 g1)
  have Z87 := Nat.le_trans Z83 P87.1
  have N86 := Fr.snoc X86 N62 g1
  have U88 := P83.trans P87
  have F89 := U88.fe F65 (nS rfl)
  have go90 := (s_aloadN (s_aloadN go86 X86 hx (H 33 rfl) rfl rfl) X86 hx (H 34 rfl) rfl rfl)
  obtain ⟨T91, X91, e91, go91⟩ := gF go90 X86 hx hZ hown (own_w hw 90 rfl) e86 F89.2.1 (H 35 rfl)
  have F92 := U88.fe F73 (nS rfl)
  obtain ⟨T93, X93, e93, go93⟩ := gN go91 X91 hx hZ hown (own_w hw 96 rfl) e91 F92.2.1 (H 36 rfl)
  obtain ⟨T94, h94, k94, X94, e94, E94, A94, O94, go94⟩ := w_3b go93 (newR X93 hx hZ hown (own_w hw 103 rfl) (own_w hw 84 rfl) e93 (g := mkF m _ _ _) rfl (H 37 rfl) rfl (by decide) (cap := 1) (by decide) (by decide) (by decide) (by decide))
  obtain ⟨b94, gz94⟩ : ∃ z, z = h86.size := ⟨_, rfl⟩
  rw [← gz94] at A94 go94
  have l95 := Nat.lt_of_lt_of_le F89.lt (Nat.le_of_eq gz94.symm)
  have l96 := Nat.lt_of_lt_of_le F92.lt (Nat.le_of_eq gz94.symm)
  have F97 := U88.fe F75 (nS rfl)
  have l98 := Nat.lt_of_lt_of_le F97.lt (Nat.le_of_eq gz94.symm)
  have F99 := U88.lj F77
  have l100 := Nat.lt_of_lt_of_le F99.lt (Nat.le_of_eq gz94.symm)
  have F101 := U88.lj F79
  have l102 := Nat.lt_of_lt_of_le F101.lt (Nat.le_of_eq gz94.symm)
  have F103 := U88.lj F81
  have l104 := Nat.lt_of_lt_of_le F103.lt (Nat.le_of_eq gz94.symm)
  have F105 := P87.li V71
  have l106 := Nat.lt_of_lt_of_le F105.lt (Nat.le_of_eq gz94.symm)
  have g_b94 := Nat.le_trans Z87 (Nat.le_of_eq gz94.symm)
  have sz_b94 := Nat.le_trans KN87.1 (Nat.le_of_eq gz94.symm)
  have P107 : Pres Z a0 _ _ _ := Pres.ext E94
  have KN107 := KN87.trans (KN.ext E94 Z87)
  have Z107 := Nat.le_trans Z87 P107.1
  have U108 := P3.trans (P16.trans (P20.trans (P39.trans (P43.trans (P59.trans (P63.trans (P83.trans (P87.trans P107))))))))
  have F109 := U108.fe F_runs (nS rfl)
  obtain ⟨T110, h110, X110, e110, W110, go110⟩ := pF go94 X94 hx hZ hown (own_w hw 104 rfl) e94 F109 (Or.inr ⟨(own_w hw 105 rfl), rfl, hnm⟩) pf_4 rfl rfl (H 38 rfl)
  have Fw110 := F109.self W110
  have P111 : Pres Z a0 _ _ _ := Pres.fS F109 W110 (by decide)
  have KN111 := KN107.trans (KN.wr W110 g1)
  have Z111 := Nat.le_trans Z107 P111.1
  have N110 := Fr.snoc X110 N86 g1
  have U112 := P3.trans (P16.trans (P20.trans (P39.trans (P43.trans (P59.trans (P63.trans (P83.trans (P87.trans (P107.trans P111)))))))))
  have F113 := U112.fe F_block (nS rfl)
  have go114 := (s_aloadN (s_aloadN go110 X110 hx (H 39 rfl) rfl rfl) X110 hx (H 40 rfl) rfl rfl)
  obtain ⟨T115, h115, X115, e115, W115, go115⟩ := pF go114 X110 hx hZ hown (own_w hw 106 rfl) e110 F113 (Or.inl (own_w hw 107 rfl)) pf_7 rfl rfl (H 41 rfl)
  have Fw115 := F113.self W115
  have P116 : Pres Z a0 _ _ _ := Pres.fS F113 W115 (by decide)
  have KN116 := KN111.trans (KN.wr W115 g1)
  have Z116 := Nat.le_trans Z111 P116.1
  have N115 := Fr.snoc X115 N110 g1
  have U117 := P107.trans (P111.trans P116)
  have F118 := U117.fe F97 (nS rfl)
  have go119 := (s_dup (s_aloadN go115 X115 hx (H 42 rfl) rfl rfl) X115 hx (H 43 rfl) rfl)
  obtain ⟨T120, X120, e120, go120⟩ := gF go119 X115 hx hZ hown (own_w hw 108 rfl) e115 F118.2.1 (H 44 rfl)
  have go121 := (s_iadd (s_iconst go120 X120 hx (H 45 rfl) (v := 1) rfl) X120 hx (H 46 rfl))
  obtain ⟨T122, h122, X122, e122, W122, go122⟩ := pF go121 X120 hx hZ hown (own_w hw 108 rfl) e120 F118 (Or.inl (own_w hw 109 rfl)) pf_0 rfl rfl (H 47 rfl)
  have Fw122 := F118.self W122
  have P123 : Pres Z a0 _ _ _ := Pres.fIx (by decide) F118 W122 (by decide)
  have KN123 := KN116.trans (KN.wr W122 g2)
  have Z123 := Nat.le_trans Z116 P123.1
  have N122 := Fr.snoc X122 N115 g2
  have U124 := P3.trans (P16.trans (P20.trans (P39.trans (P43.trans (P59.trans (P63.trans (P83.trans (P87.trans (P107.trans (P111.trans (P116.trans P123)))))))))))
  have F125 := U124.fe F4 (nS rfl)
  have go126 := (s_dup (s_aloadN go122 X122 hx (H 48 rfl) rfl rfl) X122 hx (H 49 rfl) rfl)
  obtain ⟨T127, X127, e127, go127⟩ := gF go126 X122 hx hZ hown (own_w hw 110 rfl) e122 F125.2.1 (H 50 rfl)
  have go128 := (s_ladd (s_lconst go127 X127 hx (H 51 rfl) (v := 1) rfl) X127 hx (H 52 rfl))
  obtain ⟨T129, h129, X129, e129, W129, go129⟩ := pF go128 X127 hx hZ hown (own_w hw 110 rfl) e127 F125 (Or.inl (own_w hw 111 rfl)) pf_1 rfl rfl (H 53 rfl)
  have Fw129 := F125.self W129
  have P130 : Pres Z a0 _ _ _ := Pres.fJ F125 W129
  have KN130 := KN123.trans (KN.wr W129 g2)
  have Z130 := Nat.le_trans Z123 P130.1
  have N129 := Fr.snoc X129 N122 g2
  refine own_f0 (Q := Q9 Z a0 a1 a2 a3 bc bv h0 n0) Bd.notSynchronized hx Bd.returns pre0 X129 go129 (H 54 rfl) e129 (by decide) (by decide) ?_
  have U131 := P39.trans (P43.trans (P59.trans (P63.trans (P83.trans (P87.trans (P107.trans (P111.trans (P116.trans (P123.trans P130)))))))))
  have F132 := U131.fe Fw19 (nS rfl)
  have U133 := P107.trans (P111.trans (P116.trans (P123.trans P130)))
  have F134 := U133.lj F99
  have U135 := P59.trans (P63.trans (P83.trans (P87.trans (P107.trans (P111.trans (P116.trans (P123.trans P130)))))))
  have F136 := U135.fe Fw42 (nS rfl)
  have F137 := U133.lj F101
  have U138 := P83.trans (P87.trans (P107.trans (P111.trans (P116.trans (P123.trans P130)))))
  have F139 := U138.fe Fw62 (nS rfl)
  have F140 := U133.lj F103
  have F141 := U133.fe Fw86 (nS rfl)
  have F142 := U133.li F105
  have U143 := P123.trans P130
  have F144 := U143.fe Fw115 (nS rfl)
  have F145 := P130.fe Fw122 (nS rfl)
  exact ⟨b10, b32, b50, b71, (bv + 1), rfl, N129, KN130, (((((((((((((P3.trans P16).trans P20).trans P39).trans P43).trans P59).trans P63).trans P83).trans P87).trans P107).trans P111).trans P116).trans P123).trans P130), F132, F134, F136, F137, F139, F140, F141, F142, F144, F145, Fw129, g_b10, g_b32, g_b50, g_b71⟩

def dt26 : List (Nat × Instr × Nat) := [(0, .aload_n 0, 1), (1, .getfield 89, 3), (4, .iconst 1, 1), (5, .iadd, 1), (6, .aload_n 0, 1), (7, .getfield 56, 3), (10, .arraylength, 1), (11, .if_icmp .ne 21, 3), (32, .aload_n 0, 1), (33, .getfield 89, 3), (36, .aload_n 0, 1), (37, .getfield 11, 3), (40, .arraylength, 1), (41, .if_icmp .ne 44, 3), (85, .aload_n 0, 1), (86, .getfield 11, 3), (89, .iload_n 1, 1), (90, .aload_n 0, 1), (91, .getfield 11, 3), (94, .iload_n 1, 1), (95, .iconst 1, 1), (96, .iadd, 1), (97, .aload_n 0, 1), (98, .getfield 89, 3), (101, .iload_n 1, 1), (102, .isub, 1), (103, .invokestatic 140, 3), (106, .aload_n 0, 1), (107, .getfield 29, 3), (110, .iload_n 1, 1), (111, .aload_n 0, 1), (112, .getfield 25, 3), (115, .imul, 1), (116, .aload_n 0, 1), (117, .getfield 29, 3), (120, .iload_n 1, 1), (121, .iconst 1, 1), (122, .iadd, 1), (123, .aload_n 0, 1), (124, .getfield 25, 3), (127, .imul, 1), (128, .aload_n 0, 1), (129, .getfield 89, 3), (132, .iload_n 1, 1), (133, .isub, 1), (134, .aload_n 0, 1), (135, .getfield 25, 3), (138, .imul, 1), (139, .invokestatic 140, 3), (142, .aload_n 0, 1), (143, .getfield 11, 3), (146, .iload_n 1, 1), (147, .aload_n 2, 1), (148, .aastore, 1), (149, .aload_n 0, 1), (150, .dup, 1), (151, .getfield 89, 3), (154, .iconst 1, 1), (155, .iadd, 1), (156, .putfield 89, 3), (159, .aload_n 0, 1), (160, .getfield 56, 3), (163, .iload_n 1, 1), (164, .aload_n 0, 1), (165, .getfield 56, 3), (168, .iload_n 1, 1), (169, .iconst 1, 1), (170, .iadd, 1), (171, .aload_n 0, 1), (172, .getfield 89, 3), (175, .iload_n 1, 1), (176, .isub, 1), (177, .invokestatic 140, 3), (180, .aload_n 0, 1), (181, .getfield 56, 3), (184, .iload_n 1, 1), (185, .aload_n 2, 1), (186, .getfield 111, 3), (189, .iconst 0, 1), (190, .laload, 1), (191, .lastore, 1), (192, .return_, 1)]
theorem dk26 : ∀ x ∈ dt26, decode prog_99_method_37_code x.1 = .ok x.2 := by decide +kernel
theorem pn_26 : plainName "com/example/slackline/slackline/replay/Steps" = true := by first | (simp [plainName, overriddenIn]; done) | decide +kernel
theorem ef_26 (m : MethodId) (x0 : Addr) (x1 : Int32) (x2 : Addr) : entryFrame m #[(.ref x0), (.int x1), (.ref x2)] 3 = mkF m 0 #[vr x0, vi x1, vr x2] [] := by first | (simp [entryFrame, mkF, argsToLocals, Value.category]; done) | rfl
def Q26 (Z : State) (a0 : Array Value) (a1 : Addr) (p2 : Int32) (a3 : Addr) (oA : Addr) (vs : List Value) (oP : Addr) (oF : Addr) (cc : Int32) (t : Addr) (h0 : Heap) (n0 : Nat) (v : Option Value) (h : Heap) (L : List Loc) : Prop := ∃ vs2 : List Value, v = none ∧ Fr n0 L ∧ KN n0 h0 h ∧ Pres Z a0 h0 h [(oA, "[]"), (oA, "[]"), (a1, "chunkCount")] ∧ FE Z a0 h a1 nSt "chunkCount" "I" (.int (cc + 1)) ∧ RA Z h oA vs2 ∧ (insP vs vs2 cc p2 (.ref a3))
set_option maxRecDepth 65536 in
set_option maxHeartbeats 40000000 in
theorem rm26 (l : Launch) (Z : State) (a0 : Array Value) (hw : ∀ d ∈ tables_1, d.before a0 Z = true) (ws : List Jvm.Cond) (a1 : Addr) (p2 : Int32) (a3 : Addr) (oA : Addr) (vs : List Value) (oP : Addr) (oF : Addr) (cc : Int32) (t : Addr) (h0 : Heap) (n0 : Nat) (Z0 : n0 ≤ h0.size) (F1 : FE Z a0 h0 a1 nSt "chunkCount" "I" (.int cc)) (F2 : FE Z a0 h0 a1 nSt "firstTimes" "[J" (.ref oF)) (L1 : LJ Z h0 oF (4 : Int32)) (F3 : FE Z a0 h0 a1 nSt "chunks" dCh (.ref oA)) (R1 : RA Z h0 oA vs) (F4 : FE Z a0 h0 a1 nSt "peaks" "[J" (.ref oP)) (L2 : LJ Z h0 oP (4 : Int32)) (F5 : FE Z a0 h0 a1 nSt "kinds" "I" (.int 1)) (hc : 1 ≤ p2.toInt ∧ p2.toInt ≤ cc.toInt ∧ cc.toInt ≤ 2) (hcs : (cc = 1 ∧ p2 = 1) ∨ (cc = 2 ∧ p2 = 1) ∨ (cc = 2 ∧ p2 = 2)) (hel : ∀ i : Nat, i < (cc - p2).toNatClampNeg → ∃ c : Addr, vs[(p2).toNatClampNeg + i]? = some (.ref c) ∧ Exa Z h0 c nCh) (F6 : FE Z a0 h0 a3 nCh "time" "[J" (.ref t)) (L3 : LJ Z h0 t (4 : Int32)) (g1 : n0 ≤ a1) (g2 : n0 ≤ oA) (g3 : n0 ≤ oP) (g4 : n0 ≤ oF) :
    MetFree l y_12 (head1 (Jvm.Cond.code y_12 prog_99_method_37_code 3 none :: ws) ({ frames := 1, cells := 0, slots := 0, locals := 18 } : Room)) (fun a U => a = #[(.ref a1), (.int p2), (.ref a3)] ∧ Z.Warmed39 U.vm ∧ U.heap = h0) (fun _ _ _ _ _ => True) (fun _ U o U' => ∃ v L, o = .returned v ∧ Q26 Z a0 a1 p2 a3 oA vs oP oF cc t h0 n0 v U'.heap L ∧ FrameEnd U o U' L ({ frames := 1, cells := 0, slots := 0, locals := 18 } : Room).cells ({ frames := 1, cells := 0, slots := 0, locals := 18 } : Room).slots) := by
  refine MetFree.of_bodySF (plainFor_of_name pn_26) hisR ?_
  intro p e s m args below meth c s₁ Bd hml0 hP hK
  obtain ⟨rfl, hZ, hh⟩ := hP
  have hx := Bd.exec
  have hby := Bd.bytes
  have hml : c.maxLocals = 3 := hml0
  have hown : s.vm.findClass "com/example/slackline/slackline/replay/Steps" = some m.cls := findClass_of_methodNamed Bd.named
  have hnm := (name_of_methodNamed Bd.named Bd.method).1
  have X0 : Stand p l e ({ frames := 1, cells := 0, slots := 0, locals := 18 } : Room) s m #[(.ref a1), (.int p2), (.ref a3)] below meth c s₁ [] 0 0 := Stand.of_body Bd
  have e0 : s₁.heap = h0 := by rw [← hh, Bd.state]; rfl
  have N0 := Fr.nil n0
  have H : ∀ (k : Nat) {i : Nat} {r : Instr × Nat}, dt26[k]? = some (i, r) → decode c.code i = .ok r := fun _ i r q => hb hby (dk26 (i, r) (List.mem_of_getElem? q))
  have KN0 : KN n0 h0 h0 := KN.refl n0 h0
  have PP0 : Pres Z a0 h0 h0 [] := Pres.refl Z a0 h0
  obtain ⟨F0, hF0⟩ : ∃ F : JFrame, F = entryFrame m #[(.ref a1), (.int p2), (.ref a3)] 3 := ⟨_, rfl⟩
  have pre0 : ∀ t, Steps p.tables e below (s₁.setTop F0) t → Steps p.tables e below (s₁.setTop (entryFrame m #[(.ref a1), (.int p2), (.ref a3)] 3)) t := fun t k => hF0 ▸ k
  have go0 : Go p e below s₁ F0 s₁ (mkF m 0 #[vr a1, vi p2, vr a3] []) := fun t k => castTop (hF0.trans (ef_26 m a1 p2 a3)) k
  have go1 := (s_aloadN go0 X0 hx (H 0 rfl) rfl rfl)
  obtain ⟨T2, X2, e2, go2⟩ := gF go1 X0 hx hZ hown (own_w hw 114 rfl) e0 F1.2.1 (H 1 rfl)
  have go3 := (s_aloadN (s_iadd (s_iconst go2 X2 hx (H 2 rfl) (v := 1) rfl) X2 hx (H 3 rfl)) X2 hx (H 4 rfl) rfl rfl)
  obtain ⟨T4, X4, e4, go4⟩ := gF go3 X2 hx hZ hown (own_w hw 51 rfl) e2 F2.2.1 (H 5 rfl)
  obtain ⟨cl5, Ar5, Sz5, Nn5, -⟩ := id L1
  have go7 := (s_len go4 X4 hx hZ e4 Ar5 Sz5 Nn5 (H 6 rfl))
  have hd6 : ¬ ((cc + 1) = 4) := n_ne (n_add (nr cc) nl1 (by omega)) nl4 (by omega)
  have go8 := (s_aloadN (s_icmpYes go7 X4 hx (H 7 rfl) (pc' := 32) rfl (by decide) (feq hd6).2) X4 hx (H 8 rfl) rfl rfl)
  obtain ⟨T9, X9, e9, go9⟩ := gF go8 X4 hx hZ hown (own_w hw 114 rfl) e4 F1.2.1 (H 9 rfl)
  have go10 := (s_aloadN go9 X9 hx (H 10 rfl) rfl rfl)
  obtain ⟨T11, X11, e11, go11⟩ := gF go10 X9 hx hZ hown (own_w hw 48 rfl) e9 F3.2.1 (H 11 rfl)
  obtain ⟨cl12, Ar12, Sz12⟩ := RA.arl R1
  have go14 := (s_len go11 X11 hx hZ e11 Ar12 Sz12 (by decide) (H 12 rfl))
  have hd13 : ¬ (cc = 4) := n_ne (nr cc) nl4 (by omega)
  have go15 := (s_aloadN (s_icmpYes go14 X11 hx (H 13 rfl) (pc' := 85) rfl (by decide) (feq hd13).2) X11 hx (H 14 rfl) rfl rfl)
  obtain ⟨T16, X16, e16, go16⟩ := gF go15 X11 hx hZ hown (own_w hw 48 rfl) e11 F3.2.1 (H 15 rfl)
  have go17 := (s_aloadN (s_iloadN go16 X16 hx (H 16 rfl) rfl) X16 hx (H 17 rfl) rfl rfl)
  obtain ⟨T18, X18, e18, go18⟩ := gF go17 X16 hx hZ hown (own_w hw 48 rfl) e16 F3.2.1 (H 18 rfl)
  have go19 := (s_aloadN (s_iadd (s_iconst (s_iloadN go18 X18 hx (H 19 rfl) rfl) X18 hx (H 20 rfl) (v := 1) rfl) X18 hx (H 21 rfl)) X18 hx (H 22 rfl) rfl rfl)
  obtain ⟨T20, X20, e20, go20⟩ := gF go19 X18 hx hZ hown (own_w hw 114 rfl) e18 F1.2.1 (H 23 rfl)
  have go21 := (s_isub (s_iloadN go20 X20 hx (H 24 rfl) rfl) X20 hx (H 25 rfl))
  have na22 := n_cp (nr p2) (n_sub (nr cc) (nr p2) (by omega)) nl4 (by omega)
  have nb22 := n_cp (n_add (nr p2) nl1 (by omega)) (n_sub (nr cc) (nr p2) (by omega)) nl4 (by omega)
  obtain ⟨T22, h22, L22, X22, e22, N22, Kc22, Ra22, Pr22, st22⟩ := cpR (a0 := a0) X20 hx hZ hown (own_w hw 224 rfl) (own_w hw 227 rfl) (own_w hw 225 rfl) (own_w hw 226 rfl) e20 R1 hel na22.1 nb22.1 na22.2.1 na22.2.2 nb22.2.2 N0 g2 (pc := 103) (Ls := #[vr a1, vi p2, vr a3]) (rest := []) (by rw [hml]; rfl) (H 26 rfl) (by decide) (W := 0) (Nat.le_of_eq rfl) (by decide)
  have KN23 := KN0.trans (KN.kp Kc22 Z0 (own_all1 g2))
  have Z23 := Nat.le_trans Z0 Pr22.1
  have go24 := glm go21 st22
  have F25 := Pr22.fe F4 (nS rfl)
  have go26 := (s_aloadN go24 X22 hx (H 27 rfl) rfl rfl)
  obtain ⟨T27, X27, e27, go27⟩ := gF go26 X22 hx hZ hown (own_w hw 117 rfl) e22 F25.2.1 (H 28 rfl)
  have F28 := Pr22.fe F5 (nS rfl)
  have go29 := (s_aloadN (s_iloadN go27 X27 hx (H 29 rfl) rfl) X27 hx (H 30 rfl) rfl rfl)
  obtain ⟨T30, X30, e30, go30⟩ := gF go29 X27 hx hZ hown (own_w hw 57 rfl) e27 F28.2.1 (H 31 rfl)
  have go31 := (s_aloadN (s_imul go30 X30 hx (H 32 rfl)) X30 hx (H 33 rfl) rfl rfl)
  obtain ⟨T32, X32, e32, go32⟩ := gF go31 X30 hx hZ hown (own_w hw 117 rfl) e30 F25.2.1 (H 34 rfl)
  have go33 := (s_aloadN (s_iadd (s_iconst (s_iloadN go32 X32 hx (H 35 rfl) rfl) X32 hx (H 36 rfl) (v := 1) rfl) X32 hx (H 37 rfl)) X32 hx (H 38 rfl) rfl rfl)
  obtain ⟨T34, X34, e34, go34⟩ := gF go33 X32 hx hZ hown (own_w hw 57 rfl) e32 F28.2.1 (H 39 rfl)
  have F35 := Pr22.fe F1 (nS rfl)
  have go36 := (s_aloadN (s_imul go34 X34 hx (H 40 rfl)) X34 hx (H 41 rfl) rfl rfl)
  obtain ⟨T37, X37, e37, go37⟩ := gF go36 X34 hx hZ hown (own_w hw 114 rfl) e34 F35.2.1 (H 42 rfl)
  have go38 := (s_aloadN (s_isub (s_iloadN go37 X37 hx (H 43 rfl) rfl) X37 hx (H 44 rfl)) X37 hx (H 45 rfl) rfl rfl)
  obtain ⟨T39, X39, e39, go39⟩ := gF go38 X37 hx hZ hown (own_w hw 57 rfl) e37 F28.2.1 (H 46 rfl)
  have F40 := Pr22.lj L2
  have go41 := (s_imul go39 X39 hx (H 47 rfl))
  have na42 := n_cp (n_mul1 (nr p2) nl1) (n_mul1 (n_sub (nr cc) (nr p2) (by omega)) nl1) nl4 (by omega)
  have nb42 := n_cp (n_mul1 (n_add (nr p2) nl1 (by omega)) nl1) (n_mul1 (n_sub (nr cc) (nr p2) (by omega)) nl1) nl4 (by omega)
  obtain ⟨T42, h42, L42, X42, e42, N42, Kc42, Vc42, st42⟩ := cpJ X39 hx hZ hown (own_w hw 224 rfl) (own_w hw 227 rfl) (own_w hw 225 rfl) (own_w hw 226 rfl) e39 F40 F40 na42.1 nb42.1 na42.2.1 na42.2.2 nb42.2.2 N22 g3 (pc := 139) (Ls := #[vr a1, vi p2, vr a3]) (rest := []) (by rw [hml]; rfl) (H 48 rfl) (by decide) (W := 0) (Nat.le_of_eq rfl) (by decide)
  have P43 : Pres Z a0 _ _ _ := Pres.cpJ F40 Kc42 Vc42
  have KN43 := KN23.trans (KN.kp Kc42 Z23 (own_all1 g3))
  have Z43 := Nat.le_trans Z23 P43.1
  have go44 := glm go41 st42
  have U45 := Pr22.trans P43
  have F46 := U45.fe F3 (nS rfl)
  have go47 := (s_aloadN go44 X42 hx (H 49 rfl) rfl rfl)
  obtain ⟨T48, X48, e48, go48⟩ := gF go47 X42 hx hZ hown (own_w hw 48 rfl) e42 F46.2.1 (H 50 rfl)
  have F49 := P43.ra Ra22 (nS rfl)
  have F50 := U45.ex F6.1
  have go51 := (s_aloadN (s_iloadN go48 X48 hx (H 51 rfl) rfl) X48 hx (H 52 rfl) rfl rfl)
  obtain ⟨T52, h52, X52, e52, W52, Ra52, Pr52, st52⟩ := aastR (a0 := a0) X48 hx hZ e48 (j := p2) F49 (n_in (nr p2) nl4 (by omega)) F50 (pc := 148) (Ls := #[vr a1, vi p2, vr a3]) (rest := []) (H 53 rfl)
  have KN53 := KN43.trans (KN.wr W52 g2)
  have Z53 := Nat.le_trans Z43 Pr52.1
  have N52 := Fr.snoc X52 N42 g2
  have go54 := glm go51 st52
  have U55 := P43.trans Pr52
  have F56 := U55.fe F35 (nS rfl)
  have go57 := (s_dup (s_aloadN go54 X52 hx (H 54 rfl) rfl rfl) X52 hx (H 55 rfl) rfl)
  obtain ⟨T58, X58, e58, go58⟩ := gF go57 X52 hx hZ hown (own_w hw 114 rfl) e52 F56.2.1 (H 56 rfl)
  have go59 := (s_iadd (s_iconst go58 X58 hx (H 57 rfl) (v := 1) rfl) X58 hx (H 58 rfl))
  obtain ⟨T60, h60, X60, e60, W60, go60⟩ := pF go59 X58 hx hZ hown (own_w hw 114 rfl) e58 F56 (Or.inl (own_w hw 115 rfl)) pf_0 rfl rfl (H 59 rfl)
  have Fw60 := F56.self W60
  have P61 : Pres Z a0 _ _ _ := Pres.fIx (by decide) F56 W60 (by decide)
  have KN61 := KN53.trans (KN.wr W60 g1)
  have Z61 := Nat.le_trans Z53 P61.1
  have N60 := Fr.snoc X60 N52 g1
  have U62 := Pr22.trans (P43.trans (Pr52.trans P61))
  have F63 := U62.fe F2 (nS rfl)
  have go64 := (s_aloadN go60 X60 hx (H 60 rfl) rfl rfl)
  obtain ⟨T65, X65, e65, go65⟩ := gF go64 X60 hx hZ hown (own_w hw 51 rfl) e60 F63.2.1 (H 61 rfl)
  have go66 := (s_aloadN (s_iloadN go65 X65 hx (H 62 rfl) rfl) X65 hx (H 63 rfl) rfl rfl)
  obtain ⟨T67, X67, e67, go67⟩ := gF go66 X65 hx hZ hown (own_w hw 51 rfl) e65 F63.2.1 (H 64 rfl)
  have go68 := (s_aloadN (s_iadd (s_iconst (s_iloadN go67 X67 hx (H 65 rfl) rfl) X67 hx (H 66 rfl) (v := 1) rfl) X67 hx (H 67 rfl)) X67 hx (H 68 rfl) rfl rfl)
  obtain ⟨T69, X69, e69, go69⟩ := gF go68 X67 hx hZ hown (own_w hw 114 rfl) e67 Fw60.2.1 (H 69 rfl)
  have F70 := U62.lj L1
  have go71 := (s_isub (s_iloadN go69 X69 hx (H 70 rfl) rfl) X69 hx (H 71 rfl))
  have na72 := n_cp (nr p2) (n_sub (n_add (nr cc) nl1 (by omega)) (nr p2) (by omega)) nl4 (by omega)
  have nb72 := n_cp (n_add (nr p2) nl1 (by omega)) (n_sub (n_add (nr cc) nl1 (by omega)) (nr p2) (by omega)) nl4 (by omega)
  obtain ⟨T72, h72, L72, X72, e72, N72, Kc72, Vc72, st72⟩ := cpJ X69 hx hZ hown (own_w hw 224 rfl) (own_w hw 227 rfl) (own_w hw 225 rfl) (own_w hw 226 rfl) e69 F70 F70 na72.1 nb72.1 na72.2.1 na72.2.2 nb72.2.2 N60 g4 (pc := 177) (Ls := #[vr a1, vi p2, vr a3]) (rest := []) (by rw [hml]; rfl) (H 72 rfl) (by decide) (W := 0) (Nat.le_of_eq rfl) (by decide)
  have P73 : Pres Z a0 _ _ _ := Pres.cpJ F70 Kc72 Vc72
  have KN73 := KN61.trans (KN.kp Kc72 Z61 (own_all1 g4))
  have Z73 := Nat.le_trans Z61 P73.1
  have go74 := glm go71 st72
  have F75 := P73.fe F63 (nS rfl)
  have go76 := (s_aloadN go74 X72 hx (H 73 rfl) rfl rfl)
  obtain ⟨T77, X77, e77, go77⟩ := gF go76 X72 hx hZ hown (own_w hw 51 rfl) e72 F75.2.1 (H 74 rfl)
  have U78 := Pr22.trans (P43.trans (Pr52.trans (P61.trans P73)))
  have F79 := U78.fe F6 (nS rfl)
  have go80 := (s_aloadN (s_iloadN go77 X77 hx (H 75 rfl) rfl) X77 hx (H 76 rfl) rfl rfl)
  obtain ⟨T81, X81, e81, go81⟩ := gF go80 X77 hx hZ hown (own_w hw 173 rfl) e77 F79.2.1 (H 77 rfl)
  have F82 := U78.lj L3
  have go83 := (s_iconst go81 X81 hx (H 78 rfl) (v := 0) rfl)
  obtain ⟨x84, go84⟩ := lJ go83 X81 hx hZ e81 F82 ⟨by decide, by decide⟩ (H 79 rfl)
  have F85 := P73.lj F70
  obtain ⟨T86, h86, X86, e86, W86, go86⟩ := sJ go84 X81 hx hZ e81 F85 (n_in (nr p2) nl4 (by omega)) (H 80 rfl)
  have P87 : Pres Z a0 _ _ _ := Pres.wrJ F85 W86
  have KN87 := KN73.trans (KN.wr W86 g4)
  have Z87 := Nat.le_trans Z73 P87.1
  have N86 := Fr.snoc X86 N72 g4
  refine own_f0 (Q := Q26 Z a0 a1 p2 a3 oA vs oP oF cc t h0 n0) Bd.notSynchronized hx Bd.returns pre0 X86 go86 (H 81 rfl) e86 (by decide) (by decide) ?_
  have U88 := P73.trans P87
  have F89 := U88.fe Fw60 (nS rfl)
  have U90 := P61.trans (P73.trans P87)
  have F91 := U90.ra Ra52 (nS rfl)
  exact ⟨((vs.take ((p2 + 1)).toNatClampNeg ++ (List.range ((cc - p2)).toNatClampNeg).map (fun i => vs.getD ((p2).toNatClampNeg + i) .null) ++ vs.drop (((p2 + 1)).toNatClampNeg + ((cc - p2)).toNatClampNeg)).set (p2).toNatClampNeg (.ref a3)), rfl, N86, KN87, (((((Pr22.trans P43).trans Pr52).trans P61).trans P73).trans P87), F89, F91, (insP_of (RA.len R1) hcs rfl rfl)⟩

def dt23 : List (Nat × Instr × Nat) := [(0, .aload_n 0, 1), (1, .getfield 11, 3), (4, .aload_n 0, 1), (5, .lload_n 1, 1), (6, .invokevirtual 98, 3), (9, .aaload, 1), (10, .astore 4, 2), (12, .aload 4, 2), (14, .getfield 152, 3), (17, .aload 4, 2), (19, .lload_n 1, 1), (20, .invokestatic 104, 3), (23, .dup2, 1), (24, .iaload, 1), (25, .iload_n 3, 1), (26, .iadd, 1), (27, .iastore, 1), (28, .return_, 1)]
theorem dk23 : ∀ x ∈ dt23, decode prog_99_method_22_code x.1 = .ok x.2 := by decide +kernel
theorem pn_23 : plainName "com/example/slackline/slackline/replay/Steps" = true := by first | (simp [plainName, overriddenIn]; done) | decide +kernel
theorem pd23_0 : parseMethodDescriptor "(J)I" = some ⟨[.long], some .int⟩ := by decide +kernel
theorem pd23_1 : parseMethodDescriptor "(Lcom/example/slackline/slackline/replay/Steps$Chunk;J)I" = some ⟨[(.object "com/example/slackline/slackline/replay/Steps$Chunk"), .long], some .int⟩ := by decide +kernel
theorem ef_23 (m : MethodId) (x0 : Addr) (x1 : Int64) : entryFrame m #[(.ref x0), (.long x1), (.int 1)] 5 = mkF m 0 #[vr x0, vj x1, .second, vi 1, .unset] [] := by first | (simp [entryFrame, mkF, argsToLocals, Value.category]; done) | rfl
def Q23 (Z : State) (a0 : Array Value) (a1 : Addr) (q2 : Int64) (I : Int) (h0 : Heap) (n0 : Nat) (v : Option Value) (h : Heap) (L : List Loc) : Prop := v = none ∧ Fr n0 L ∧ KN n0 h0 h ∧ Inv Z a0 h n0 a1 I
set_option maxRecDepth 65536 in
set_option maxHeartbeats 40000000 in
theorem rm23 (l : Launch) (Z : State) (a0 : Array Value) (hw : ∀ d ∈ tables_1, d.before a0 Z = true) (ws : List Jvm.Cond) (a1 : Addr) (q2 : Int64) (I : Int) (h0 : Heap) (n0 : Nat) (Z0 : n0 ≤ h0.size) (iv : Inv Z a0 h0 n0 a1 I) :
    MetFree l y_13 (head1 (Jvm.Cond.code y_13 prog_99_method_22_code 5 none :: ws) ({ frames := 2, cells := 0, slots := 0, locals := 35 } : Room)) (fun a U => a = #[(.ref a1), (.long q2), (.int 1)] ∧ Z.Warmed39 U.vm ∧ U.heap = h0) (fun _ _ _ _ _ => True) (fun _ U o U' => ∃ v L, o = .returned v ∧ Q23 Z a0 a1 q2 I h0 n0 v U'.heap L ∧ FrameEnd U o U' L ({ frames := 2, cells := 0, slots := 0, locals := 35 } : Room).cells ({ frames := 2, cells := 0, slots := 0, locals := 35 } : Room).slots) := by
  refine MetFree.of_bodySF (plainFor_of_name pn_23) hisR ?_
  intro p e s m args below meth c s₁ Bd hml0 hP hK
  obtain ⟨rfl, hZ, hh⟩ := hP
  have hx := Bd.exec
  have hby := Bd.bytes
  have hml : c.maxLocals = 5 := hml0
  have hown : s.vm.findClass "com/example/slackline/slackline/replay/Steps" = some m.cls := findClass_of_methodNamed Bd.named
  have hnm := (name_of_methodNamed Bd.named Bd.method).1
  have X0 : Stand p l e ({ frames := 2, cells := 0, slots := 0, locals := 35 } : Room) s m #[(.ref a1), (.long q2), (.int 1)] below meth c s₁ [] 0 0 := Stand.of_body Bd
  have e0 : s₁.heap = h0 := by rw [← hh, Bd.state]; rfl
  have N0 := Fr.nil n0
  have H : ∀ (k : Nat) {i : Nat} {r : Instr × Nat}, dt23[k]? = some (i, r) → decode c.code i = .ok r := fun _ i r q => hb hby (dk23 (i, r) (List.mem_of_getElem? q))
  have KN0 : KN n0 h0 h0 := KN.refl n0 h0
  obtain ⟨oB, oA, oF, oP, vs, cc, lf, sc, ss, bv, sg, ⟨iga, igb, igc, igd, ige⟩, iv_1, iv_2, iv_3, iv_4, iv_5, iv_6, iv_7, iv_8, iv_9, iv_10, iv_11, iv_12, iv_13, iv_14, iv_15, iv_16, iv_17⟩ := iv
  have ivc := JJ.ccI iv_17
  obtain ⟨F0, hF0⟩ : ∃ F : JFrame, F = entryFrame m #[(.ref a1), (.long q2), (.int 1)] 5 := ⟨_, rfl⟩
  have pre0 : ∀ t, Steps p.tables e below (s₁.setTop F0) t → Steps p.tables e below (s₁.setTop (entryFrame m #[(.ref a1), (.long q2), (.int 1)] 5)) t := fun t k => hF0 ▸ k
  have go0 : Go p e below s₁ F0 s₁ (mkF m 0 #[vr a1, vj q2, .second, vi 1, .unset] []) := fun t k => castTop (hF0.trans (ef_23 m a1 q2)) k
  have go1 := (s_aloadN go0 X0 hx (H 0 rfl) rfl rfl)
  obtain ⟨T2, X2, e2, go2⟩ := gF go1 X0 hx hZ hown (own_w hw 48 rfl) e0 iv_3.2.1 (H 1 rfl)
  have go3 := (s_lloadN (s_aloadN go2 X2 hx (H 2 rfl) rfl rfl) X2 hx (H 3 rfl) rfl)
  obtain ⟨cq4, qa4, qb4⟩ := (iv_1.1).cell
  obtain ⟨_, _, ⟨T4, L4, k4, n4⟩, -, X4, ⟨Lc4, hQ4, l4, y4, z4⟩, g4⟩ := c_b go3 (X2.privateBack hx (y := y_6) hown (mvT hZ (own_w hw 161 rfl)) (mvT hZ (own_w hw 162 rfl)) (own_selp (mvT hZ (own_w hw 40 rfl)) (mvP hZ (own_w hw 163 rfl)) (mvT hZ (own_w hw 162 rfl)) (by decide)) (Cond.privateMethod_at (mvP hZ (own_w hw 163 rfl) (args := #[]))) (mvT hZ (own_w hw 164 rfl)) (by decide) (backOf (W := 1) (rm13 l Z a0 hw [] a1 q2 lf cc oF h0 n0 Z0 iv_7 iv_6 iv_4 iv_11 iv_10.1 ivc iga) hZ (own_w hw 164 rfl) (own_w hw 41 rfl) (by decide) (by decide)) (g := mkF m _ _ _) rfl (by rw [hml]; rfl) (Steps.refl _) (a := a1) (by rw [e2]; exact qa4) qb4 (argsL := [(.long q2)]) (rest := [(.ref oA)]) (lenOf pd23_0 rfl) rfl (by show 2 * 0 + _ ≤ _; exact Nat.le_of_eq rfl) (H 4 rfl) (fun _ _ => ⟨rfl, e2, (by decide : 0 + 0 ≤ _), (by decide : 0 + 0 ≤ _)⟩))
  dsimp only [Pt.U, Pt.locs, Pt.cells, Pt.slots] at X4 l4 y4 z4 g4 hQ4
  subst l4 y4 z4
  obtain ⟨r_4, rfl, Nq4, Kn4, Pq4, hr_4, F1_4⟩ := hQ4
  have N4 := Fr.app N0 Nq4
  have KN5 := KN0.trans Kn4
  have Z5 := Nat.le_trans Z0 Pq4.1
  have go6 := cr g4
  have F7 := Pq4.ra iv_13 (nS rfl)
  have F9 := iv_14.pres Pq4 (hS rfl)
  obtain ⟨cl8, c8, Ar8, hin8, hat8, va8, ct8, R8⟩ := CC.at F7 F9 (j := r_4) (nr r_4) (nr cc) (by omega)
  obtain ⟨gc10, t10, u10, s10, f10, sz10, ph10, vv10, ⟨gt10, gu10, gs10, gf10⟩, c1_10, c2_10, c3_10, c4_10, c5_10, c6_10, c7_10, c8_10, c9_10, c10_10, c11_10, c12_10, c13_10⟩ := R8
  have go11 := (s_aload (s_astore (s_aaload go6 X4 hx hZ rfl Ar8 rfl hin8 hat8 (H 5 rfl)) X4 hx (H 6 rfl) rfl (L' := #[vr a1, vj q2, .second, vi 1, vr c8]) rfl) X4 hx (H 7 rfl) rfl rfl)
  obtain ⟨T12, X12, e12, go12⟩ := gF go11 X4 hx hZ hown (own_w hw 228 rfl) rfl c7_10.2.1 (H 8 rfl)
  have go13 := (s_lloadN (s_aload go12 X12 hx (H 9 rfl) rfl rfl) X12 hx (H 10 rfl) rfl)
  obtain ⟨_, _, ⟨T14, L14, k14, n14⟩, -, X14, ⟨Lc14, hQ14, l14, y14, z14⟩, g14⟩ := c_s go13 (Jvm.LawKit.callS X12 hx (y := y_4) hown (mvT hZ (own_w hw 170 rfl)) (mvT hZ (own_w hw 171 rfl)) (mvT hZ (own_w hw 41 rfl)) (mvT hZ (own_w hw 172 rfl)) (by decide) (backOf (W := 1) (rm14 l Z a0 hw [] c8 q2 t10 sz10 (T4.heap) n0 Z5 c1_10 c2_10 c10_10 ⟨c11_10.1, c11_10.2.1⟩) hZ (own_w hw 172 rfl) (own_w hw 41 rfl) (by decide) (by decide)) (g := mkF m _ _ _) rfl (by rw [hml]; rfl) (argsL := [(.ref c8), (.long q2)]) (rest := [(.ref f10)]) (lenOf pd23_1 rfl) rfl (by show 2 * 0 + _ ≤ _; exact Nat.le_of_eq rfl) (H 11 rfl) (fun _ _ => ⟨rfl, e12, (by decide : 0 + 0 ≤ _), (by decide : 0 + 0 ≤ _)⟩))
  dsimp only [Pt.U, Pt.locs, Pt.cells, Pt.slots] at X14 l14 y14 z14 g14 hQ14
  subst l14 y14 z14
  obtain ⟨r_14, rfl, Nq14, eh14, hr_14⟩ := hQ14
  have N14 := Fr.app N4 Nq14
  have go15 := cr g14
  have go16 := (s_dup2 go15 X14 hx (H 12 rfl) rfl rfl)
  obtain ⟨x17, go17⟩ := lI go16 X14 hx hZ eh14 c8_10 (n_in (nr r_14) nl4 (by omega)) (H 13 rfl)
  have go18 := (s_iadd (s_iloadN go17 X14 hx (H 14 rfl) rfl) X14 hx (H 15 rfl))
  obtain ⟨T19, h19, X19, e19, W19, go19⟩ := sI go18 X14 hx hZ eh14 c8_10 (n_in (nr r_14) nl4 (by omega)) (H 16 rfl)
  have P20 : Pres Z a0 _ _ _ := Pres.wrI c8_10 W19
  have KN20 := KN5.trans (KN.wr W19 gf10)
  have Z20 := Nat.le_trans Z5 P20.1
  have N19 := Fr.snoc X19 N14 gf10
  refine own_f0 (Q := Q23 Z a0 a1 q2 I h0 n0) Bd.notSynchronized hx Bd.returns pre0 X19 go19 (H 17 rfl) e19 (by decide) (by decide) ?_
  have U21 := Pq4.trans P20
  have F22 := U21.fe iv_1 (nS rfl)
  have F23 := U21.fe iv_2 (nS rfl)
  have F24 := U21.fe iv_3 (nS rfl)
  have F25 := U21.fe iv_4 (nS rfl)
  have F26 := U21.fe iv_5 (nS rfl)
  have F27 := U21.fe iv_6 (nS rfl)
  have F28 := P20.fe F1_4 (nS rfl)
  have F29 := U21.fe iv_8 (nS rfl)
  have F30 := U21.fe iv_9 (nS rfl)
  have F31 := P20.ra F7 (nS rfl)
  have F32 := U21.fe iv_15 (nS rfl)
  have F33 := U21.fe iv_16 (nS rfl)
  have F34 := F9.pres P20 (hS rfl)
  have F35 := U21.lj iv_11
  have F36 := U21.lj iv_12
  exact ⟨rfl, N19, KN20, ⟨oB, oA, oF, oP, vs, cc, r_4, sc, ss, bv, sg, ⟨iga, igb, igc, igd, ige⟩, F22, F23, F24, F25, F26, F27, F28, F29, F30, ⟨(by have q_ := (nr r_4); omega), (by have q_ := (nr sc); omega), (by have q_ := (nr ss); omega)⟩, F35, F36, F31, (F34.top (Nat.le_refl _)), F32, F33, iv_17⟩⟩

def dt21 : List (Nat × Instr × Nat) := [(0, .iload_n 1, 1), (1, .aload_n 0, 1), (2, .getfield 89, 3), (5, .if_icmp .ge 89, 3), (8, .aload_n 0, 1), (9, .getfield 11, 3), (12, .iload_n 1, 1), (13, .aaload, 1), (14, .astore 7, 2), (16, .aload_n 0, 1), (17, .getfield 56, 3), (20, .iload_n 1, 1), (21, .iconst 1, 1), (22, .iadd, 1), (23, .laload, 1), (24, .lload_n 3, 1), (25, .lcmp, 1), (26, .ifCond .lt 7, 3), (29, .iconst 1, 1), (30, .goto 4, 3), (33, .iconst 0, 1), (34, .istore 8, 2), (36, .iload 8, 2), (38, .ifCond .eq 12, 3), (41, .aload 7, 2), (43, .lload_n 3, 1), (44, .invokestatic 207, 3), (47, .goto 8, 3), (50, .aload 7, 2), (52, .getfield 36, 3), (55, .istore 9, 2), (57, .iload 9, 2), (59, .iload_n 2, 1), (60, .if_icmp .le 20, 3), (63, .aload 7, 2), (65, .invokestatic 132, 3), (68, .aload_n 0, 1), (69, .iload_n 1, 1), (70, .iload_n 2, 1), (71, .iload 9, 2), (73, .aload 5, 2), (75, .iload 6, 2), (77, .invokevirtual 210, 3), (80, .iload 8, 2), (82, .ifCond .eq 4, 3), (85, .return_, 1), (86, .iinc 1 1, 3), (89, .iconst 0, 1), (90, .istore_n 2, 1), (91, .goto (-91), 3), (94, .return_, 1)]
theorem dk21 : ∀ x ∈ dt21, decode prog_99_method_20_code x.1 = .ok x.2 := by decide +kernel
theorem pn_21 : plainName "com/example/slackline/slackline/replay/Steps" = true := by first | (simp [plainName, overriddenIn]; done) | decide +kernel
theorem pd21_0 : parseMethodDescriptor "(Lcom/example/slackline/slackline/replay/Steps$Chunk;)V" = some ⟨[(.object "com/example/slackline/slackline/replay/Steps$Chunk")], none⟩ := by decide +kernel
theorem pd21_1 : parseMethodDescriptor "(III[II)V" = some ⟨[.int, .int, .int, (.array .int), .int], none⟩ := by decide +kernel
theorem pd21_2 : parseMethodDescriptor "(Lcom/example/slackline/slackline/replay/Steps$Chunk;J)I" = some ⟨[(.object "com/example/slackline/slackline/replay/Steps$Chunk"), .long], some .int⟩ := by decide +kernel
theorem ef_21 (m : MethodId) (x0 : Addr) (x1 : Int32) (x2 : Int32) (x3 : Int64) (x4 : Addr) : entryFrame m #[(.ref x0), (.int x1), (.int x2), (.long x3), (.ref x4), (.int 1)] 10 = mkF m 0 #[vr x0, vi x1, vi x2, vj x3, .second, vr x4, vi 1, .unset, .unset, .unset] [] := by first | (simp [entryFrame, mkF, argsToLocals, Value.category]; done) | rfl
def Q21 (Z : State) (a0 : Array Value) (a1 : Addr) (p2 : Int32) (p3 : Int32) (q4 : Int64) (a5 : Addr) (I : Int) (h0 : Heap) (n0 : Nat) (v : Option Value) (h : Heap) (L : List Loc) : Prop := v = none ∧ Fr n0 L ∧ KN n0 h0 h ∧ Inv Z a0 h n0 a1 I
set_option maxRecDepth 65536 in
set_option maxHeartbeats 40000000 in
theorem rm21 (l : Launch) (Z : State) (a0 : Array Value) (hw : ∀ d ∈ tables_1, d.before a0 Z = true) (ws : List Jvm.Cond) (a1 : Addr) (p2 : Int32) (p3 : Int32) (q4 : Int64) (a5 : Addr) (I : Int) (h0 : Heap) (n0 : Nat) (Z0 : n0 ≤ h0.size) (iv : Inv Z a0 h0 n0 a1 I) (L1 : LI Z h0 a5 (1 : Int32)) (h0_ : 0 ≤ p2.toInt) (h1_ : 0 ≤ p3.toInt) :
    MetFree l y_14 (head1 (Jvm.Cond.code y_14 prog_99_method_20_code 10 none :: ws) ({ frames := 2, cells := 0, slots := 0, locals := 42 } : Room)) (fun a U => a = #[(.ref a1), (.int p2), (.int p3), (.long q4), (.ref a5), (.int 1)] ∧ Z.Warmed39 U.vm ∧ U.heap = h0) (fun _ _ _ _ _ => True) (fun _ U o U' => ∃ v L, o = .returned v ∧ Q21 Z a0 a1 p2 p3 q4 a5 I h0 n0 v U'.heap L ∧ FrameEnd U o U' L ({ frames := 2, cells := 0, slots := 0, locals := 42 } : Room).cells ({ frames := 2, cells := 0, slots := 0, locals := 42 } : Room).slots) := by
  refine MetFree.of_bodySF (plainFor_of_name pn_21) hisR ?_
  intro p e s m args below meth c s₁ Bd hml0 hP hK
  obtain ⟨rfl, hZ, hh⟩ := hP
  have hx := Bd.exec
  have hby := Bd.bytes
  have hml : c.maxLocals = 10 := hml0
  have hown : s.vm.findClass "com/example/slackline/slackline/replay/Steps" = some m.cls := findClass_of_methodNamed Bd.named
  have hnm := (name_of_methodNamed Bd.named Bd.method).1
  have X0 : Stand p l e ({ frames := 2, cells := 0, slots := 0, locals := 42 } : Room) s m #[(.ref a1), (.int p2), (.int p3), (.long q4), (.ref a5), (.int 1)] below meth c s₁ [] 0 0 := Stand.of_body Bd
  have e0 : s₁.heap = h0 := by rw [← hh, Bd.state]; rfl
  have N0 := Fr.nil n0
  have H : ∀ (k : Nat) {i : Nat} {r : Instr × Nat}, dt21[k]? = some (i, r) → decode c.code i = .ok r := fun _ i r q => hb hby (dk21 (i, r) (List.mem_of_getElem? q))
  have KN0 : KN n0 h0 h0 := KN.refl n0 h0
  obtain ⟨oB, oA, oF, oP, vs, cc, lf, sc, ss, bv, sg, ⟨iga, igb, igc, igd, ige⟩, iv_1, iv_2, iv_3, iv_4, iv_5, iv_6, iv_7, iv_8, iv_9, iv_10, iv_11, iv_12, iv_13, iv_14, iv_15, iv_16, iv_17⟩ := iv
  have ivc := JJ.ccI iv_17
  obtain ⟨F0, hF0⟩ : ∃ F : JFrame, F = entryFrame m #[(.ref a1), (.int p2), (.int p3), (.long q4), (.ref a5), (.int 1)] 10 := ⟨_, rfl⟩
  have pre0 : ∀ t, Steps p.tables e below (s₁.setTop F0) t → Steps p.tables e below (s₁.setTop (entryFrame m #[(.ref a1), (.int p2), (.int p3), (.long q4), (.ref a5), (.int 1)] 10)) t := fun t k => hF0 ▸ k
  have go0 : Go p e below s₁ F0 s₁ (mkF m 0 #[vr a1, vi p2, vi p3, vj q4, .second, vr a5, vi 1, .unset, .unset, .unset] []) := fun t k => castTop (hF0.trans (ef_21 m a1 p2 p3 q4 a5)) k
  have go1 := (s_aloadN (s_iloadN go0 X0 hx (H 0 rfl) rfl) X0 hx (H 1 rfl) rfl rfl)
  obtain ⟨T2, X2, e2, go2⟩ := gF go1 X0 hx hZ hown (own_w hw 114 rfl) e0 iv_6.2.1 (H 2 rfl)
  by_cases hc5_3 : p2 < cc
  ·have ihc5_3 := n_ltI (nr p2) (nr cc) hc5_3
   have go4 := (s_aloadN (s_icmpNo go2 X2 hx (H 3 rfl) (tlt hc5_3).2.1) X2 hx (H 4 rfl) rfl rfl)
   obtain ⟨T5, X5, e5, go5⟩ := gF go4 X2 hx hZ hown (own_w hw 48 rfl) e2 iv_3.2.1 (H 5 rfl)
   have go6 := (s_iloadN go5 X5 hx (H 6 rfl) rfl)
   obtain ⟨cl7, c7, Ar7, hin7, hat7, va7, ct7, R7⟩ := CC.at iv_13 iv_14 (j := p2) (nr p2) (nr cc) (by omega)
   obtain ⟨gc8, t8, u8, s8, f8, sz8, ph8, vv8, ⟨gt8, gu8, gs8, gf8⟩, c1_8, c2_8, c3_8, c4_8, c5_8, c6_8, c7_8, c8_8, c9_8, c10_8, c11_8, c12_8, c13_8⟩ := R7
   have go9 := (s_aloadN (s_astore (s_aaload go6 X5 hx hZ e5 Ar7 rfl hin7 hat7 (H 7 rfl)) X5 hx (H 8 rfl) rfl (L' := #[vr a1, vi p2, vi p3, vj q4, .second, vr a5, vi 1, vr c7, .unset, .unset]) rfl) X5 hx (H 9 rfl) rfl rfl)
   obtain ⟨T10, X10, e10, go10⟩ := gF go9 X5 hx hZ hown (own_w hw 51 rfl) e5 iv_4.2.1 (H 10 rfl)
   have go11 := (s_iadd (s_iconst (s_iloadN go10 X10 hx (H 11 rfl) rfl) X10 hx (H 12 rfl) (v := 1) rfl) X10 hx (H 13 rfl))
   obtain ⟨x12, go12⟩ := lJ go11 X10 hx hZ e10 iv_11 (n_in (n_add (nr p2) nl1 (by omega)) nl4 (by omega)) (H 14 rfl)
   have go13 := (s_lcmp (s_lloadN go12 X10 hx (H 15 rfl) rfl) X10 hx (H 16 rfl))
   by_cases hc26_14 : x12 < q4
   ·have go15 := (s_aload (s_ifYes (s_iload (s_istore (s_iconst (s_ifYes go13 X10 hx (H 17 rfl) (pc' := 33) rfl (by decide) ((if0 _ _).trans (tlt ((lw_lt _ _).mpr hc26_14)).1)) X10 hx (H 20 rfl) (v := 0) rfl) X10 hx (H 21 rfl) (L' := #[vr a1, vi p2, vi p3, vj q4, .second, vr a5, vi 1, vr c7, vi 0, .unset]) rfl) X10 hx (H 22 rfl) rfl) X10 hx (H 23 rfl) (pc' := 50) rfl (by decide) ((if0 _ _).trans (teq (by decide : (0 : Int32) = 0)).1)) X10 hx (H 28 rfl) rfl rfl)
    obtain ⟨T16, X16, e16, go16⟩ := gF go15 X10 hx hZ hown (own_w hw 112 rfl) e10 c10_8.2.1 (H 29 rfl)
    have go17 := (s_iloadN (s_iload (s_istore go16 X16 hx (H 30 rfl) (L' := #[vr a1, vi p2, vi p3, vj q4, .second, vr a5, vi 1, vr c7, vi 0, vi sz8]) rfl) X16 hx (H 31 rfl) rfl) X16 hx (H 32 rfl) rfl)
    by_cases hc60_18 : p3 < sz8
    ·have ihc60_18 := n_ltI (nr p3) (nr sz8) hc60_18
     have go19 := (s_aload (s_icmpNo go17 X16 hx (H 33 rfl) (tlt hc60_18).2.2.2) X16 hx (H 34 rfl) rfl rfl)
     obtain ⟨_, _, ⟨T20, L20, k20, n20⟩, -, X20, ⟨Lc20, hQ20, l20, y20, z20⟩, g20⟩ := c_s go19 (Jvm.LawKit.callS X16 hx (y := y_7) hown (mvT hZ (own_w hw 250 rfl)) (mvT hZ (own_w hw 251 rfl)) (mvT hZ (own_w hw 41 rfl)) (mvT hZ (own_w hw 252 rfl)) (by decide) (backOf (W := 0) (rm25 l Z a0 hw [] c7 vv8 oB bv h0 n0 Z0 c12_8 c9_8 iv_16 gc8 igb) hZ (own_w hw 252 rfl) (own_w hw 41 rfl) (by decide) (by decide)) (g := mkF m _ _ _) rfl (by rw [hml]; rfl) (argsL := [(.ref c7)]) (rest := []) (lenOf pd21_0 rfl) rfl (by show 2 * 0 + _ ≤ _; exact Nat.le_of_eq rfl) (H 35 rfl) (fun _ _ => ⟨rfl, e16, (by decide : 0 + 0 ≤ _), (by decide : 0 + 0 ≤ _)⟩))
     dsimp only [Pt.U, Pt.locs, Pt.cells, Pt.slots] at X20 l20 y20 z20 g20 hQ20
     subst l20 y20 z20
     obtain ⟨x2_20, w2_20, rfl, Nq20, Kn20, Pq20, F1_20, F3_20⟩ := hQ20
     have N20 := Fr.app N0 Nq20
     have KN21 := KN0.trans Kn20
     have Z21 := Nat.le_trans Z0 Pq20.1
     have go22 := cv g20
     have F23 := Pq20.fe iv_3 (nS rfl)
     have F24 := Pq20.ra iv_13 (nS rfl)
     have F25 := Pq20.fe iv_2 (nS rfl)
     have F26 := Pq20.fe iv_5 (nS rfl)
     have F27 := Pq20.lj iv_12
     have F28 := Pq20.li L1
     have F29 := Pq20.fe c3_8 (nS rfl)
     have F30 := Pq20.lj c4_8
     have F31 := Pq20.fe c5_8 (nS rfl)
     have F32 := Pq20.lj c6_8
     have F33 := Pq20.fe c10_8 (nS rfl)
     have F34 := Pq20.fe c13_8 (nS rfl)
     have go35 := (s_iload (s_aload (s_iload (s_iloadN (s_iloadN (s_aloadN go22 X20 hx (H 36 rfl) rfl rfl) X20 hx (H 37 rfl) rfl) X20 hx (H 38 rfl) rfl) X20 hx (H 39 rfl) rfl) X20 hx (H 40 rfl) rfl rfl) X20 hx (H 41 rfl) rfl)
     obtain ⟨cq36, qa36, qb36⟩ := (F25.1).cell
     obtain ⟨_, _, ⟨T36, L36, k36, n36⟩, -, X36, ⟨Lc36, hQ36, l36, y36, z36⟩, g36⟩ := c_b go35 (X20.privateBack hx (y := y_9) hown (mvT hZ (own_w hw 264 rfl)) (mvT hZ (own_w hw 265 rfl)) (own_selp (mvT hZ (own_w hw 40 rfl)) (mvP hZ (own_w hw 266 rfl)) (mvT hZ (own_w hw 265 rfl)) (by decide)) (Cond.privateMethod_at (mvP hZ (own_w hw 266 rfl) (args := #[]))) (mvT hZ (own_w hw 267 rfl)) (by decide) (backOf (W := 0) (rm27 l Z a0 hw [] a1 p2 p3 sz8 a5 oA vs oP c7 u8 s8 sz8 ph8 (T20.heap) n0 Z21 F23 F24 F25 F26 F27 F28 (by have q_ := (nr p2); omega) (by have q_ := (nr p3); have r_ := (nr sz8); omega) va7 F29 F30 F31 F32 F33 F34 ige gc8 gu8 gs8) hZ (own_w hw 267 rfl) (own_w hw 41 rfl) (by decide) (by decide)) (g := mkF m _ _ _) rfl (by rw [hml]; rfl) (Steps.refl _) (a := a1) qa36 qb36 (argsL := [(.int p2), (.int p3), (.int sz8), (.ref a5), (.int 1)]) (rest := []) (lenOf pd21_1 rfl) rfl (by show 2 * 0 + _ ≤ _; exact Nat.le_of_eq rfl) (H 42 rfl) (fun _ _ => ⟨rfl, rfl, (by decide : 0 + 0 ≤ _), (by decide : 0 + 0 ≤ _)⟩))
     dsimp only [Pt.U, Pt.locs, Pt.cells, Pt.slots] at X36 l36 y36 z36 g36 hQ36
     subst l36 y36 z36
     obtain ⟨rfl, Nq36, Kn36, Pq36⟩ := hQ36
     have N36 := Fr.app N20 Nq36
     have KN37 := KN21.trans Kn36
     have Z37 := Nat.le_trans Z21 Pq36.1
     have go38 := cv g36
     have U39 := Pq20.trans Pq36
     have F40 := U39.fe iv_6 (nS rfl)
     have go41 := (s_aloadN (s_iloadN (s_goto (s_istoreN (s_iconst (s_iinc (s_ifYes (s_iload go38 X36 hx (H 43 rfl) rfl) X36 hx (H 44 rfl) (pc' := 86) rfl (by decide) ((if0 _ _).trans (teq (by decide : (0 : Int32) = 0)).1)) X36 hx (H 46 rfl) rfl (L' := #[vr a1, vi (p2 + 1), vi p3, vj q4, .second, vr a5, vi 1, vr c7, vi 0, vi sz8]) rfl) X36 hx (H 47 rfl) (v := 0) rfl) X36 hx (H 48 rfl) (L' := #[vr a1, vi (p2 + 1), vi 0, vj q4, .second, vr a5, vi 1, vr c7, vi 0, vi sz8]) rfl) X36 hx (H 49 rfl) (pc' := 0) rfl (by decide)) X36 hx (H 0 rfl) rfl) X36 hx (H 1 rfl) rfl rfl)
     obtain ⟨T42, X42, e42, go42⟩ := gF go41 X36 hx hZ hown (own_w hw 114 rfl) rfl F40.2.1 (H 2 rfl)
     by_cases hc5_43 : (p2 + 1) < cc
     ·have ihc5_43 := n_ltI (n_add (nr p2) nl1 (by omega)) (nr cc) hc5_43
      have F44 := Pq36.fe F23 (nS rfl)
      have go45 := (s_aloadN (s_icmpNo go42 X42 hx (H 3 rfl) (tlt hc5_43).2.1) X42 hx (H 4 rfl) rfl rfl)
      obtain ⟨T46, X46, e46, go46⟩ := gF go45 X42 hx hZ hown (own_w hw 48 rfl) e42 F44.2.1 (H 5 rfl)
      have F47 := Pq36.ra F24 (nS rfl)
      have go48 := (s_iloadN go46 X46 hx (H 6 rfl) rfl)
      have F50 := iv_14.pres U39 (hS rfl)
      obtain ⟨cl49, c49, Ar49, hin49, hat49, va49, ct49, R49⟩ := CC.at F47 F50 (j := (p2 + 1)) (n_add (nr p2) nl1 (by omega)) (nr cc) (by omega)
      obtain ⟨gc51, t51, u51, s51, f51, sz51, ph51, vv51, ⟨gt51, gu51, gs51, gf51⟩, c1_51, c2_51, c3_51, c4_51, c5_51, c6_51, c7_51, c8_51, c9_51, c10_51, c11_51, c12_51, c13_51⟩ := R49
      have F52 := U39.fe iv_4 (nS rfl)
      have go53 := (s_aloadN (s_astore (s_aaload go48 X46 hx hZ e46 Ar49 rfl hin49 hat49 (H 7 rfl)) X46 hx (H 8 rfl) rfl (L' := #[vr a1, vi (p2 + 1), vi 0, vj q4, .second, vr a5, vi 1, vr c49, vi 0, vi sz8]) rfl) X46 hx (H 9 rfl) rfl rfl)
      obtain ⟨T54, X54, e54, go54⟩ := gF go53 X46 hx hZ hown (own_w hw 51 rfl) e46 F52.2.1 (H 10 rfl)
      have F55 := U39.lj iv_11
      have go56 := (s_iadd (s_iconst (s_iloadN go54 X54 hx (H 11 rfl) rfl) X54 hx (H 12 rfl) (v := 1) rfl) X54 hx (H 13 rfl))
      obtain ⟨x57, go57⟩ := lJ go56 X54 hx hZ e54 F55 (n_in (n_add (n_add (nr p2) nl1 (by omega)) nl1 (by omega)) nl4 (by omega)) (H 14 rfl)
      have go58 := (s_lcmp (s_lloadN go57 X54 hx (H 15 rfl) rfl) X54 hx (H 16 rfl))
      by_cases hc26_59 : x57 < q4
      ·have go60 := (s_aload (s_ifYes (s_iload (s_istore (s_iconst (s_ifYes go58 X54 hx (H 17 rfl) (pc' := 33) rfl (by decide) ((if0 _ _).trans (tlt ((lw_lt _ _).mpr hc26_59)).1)) X54 hx (H 20 rfl) (v := 0) rfl) X54 hx (H 21 rfl) (L' := #[vr a1, vi (p2 + 1), vi 0, vj q4, .second, vr a5, vi 1, vr c49, vi 0, vi sz8]) rfl) X54 hx (H 22 rfl) rfl) X54 hx (H 23 rfl) (pc' := 50) rfl (by decide) ((if0 _ _).trans (teq (by decide : (0 : Int32) = 0)).1)) X54 hx (H 28 rfl) rfl rfl)
       obtain ⟨T61, X61, e61, go61⟩ := gF go60 X54 hx hZ hown (own_w hw 112 rfl) e54 c10_51.2.1 (H 29 rfl)
       have go63 := (s_iloadN (s_iload (s_istore go61 X61 hx (H 30 rfl) (L' := #[vr a1, vi (p2 + 1), vi 0, vj q4, .second, vr a5, vi 1, vr c49, vi 0, vi sz51]) rfl) X61 hx (H 31 rfl) rfl) X61 hx (H 32 rfl) rfl)
       have hd62 : (0 : Int32) < sz51 := n_lt nl0 (nr sz51) (by omega)
       have F64 := Pq36.fe F3_20 (nS rfl)
       have go65 := (s_aload (s_icmpNo go63 X61 hx (H 33 rfl) (tlt hd62).2.2.2) X61 hx (H 34 rfl) rfl rfl)
       obtain ⟨_, _, ⟨T66, L66, k66, n66⟩, -, X66, ⟨Lc66, hQ66, l66, y66, z66⟩, g66⟩ := c_s go65 (Jvm.LawKit.callS X61 hx (y := y_7) hown (mvT hZ (own_w hw 250 rfl)) (mvT hZ (own_w hw 251 rfl)) (mvT hZ (own_w hw 41 rfl)) (mvT hZ (own_w hw 252 rfl)) (by decide) (backOf (W := 0) (rm25 l Z a0 hw [] c49 vv51 oB w2_20 (T36.heap) n0 Z37 c12_51 c9_51 F64 gc51 igb) hZ (own_w hw 252 rfl) (own_w hw 41 rfl) (by decide) (by decide)) (g := mkF m _ _ _) rfl (by rw [hml]; rfl) (argsL := [(.ref c49)]) (rest := []) (lenOf pd21_0 rfl) rfl (by show 2 * 0 + _ ≤ _; exact Nat.le_of_eq rfl) (H 35 rfl) (fun _ _ => ⟨rfl, e61, (by decide : 0 + 0 ≤ _), (by decide : 0 + 0 ≤ _)⟩))
       dsimp only [Pt.U, Pt.locs, Pt.cells, Pt.slots] at X66 l66 y66 z66 g66 hQ66
       subst l66 y66 z66
       obtain ⟨x2_66, w2_66, rfl, Nq66, Kn66, Pq66, F1_66, F3_66⟩ := hQ66
       have N66 := Fr.app N36 Nq66
       have KN67 := KN37.trans Kn66
       have Z67 := Nat.le_trans Z37 Pq66.1
       have go68 := cv g66
       have F69 := Pq66.fe F44 (nS rfl)
       have F70 := Pq66.ra F47 (nS rfl)
       have U71 := Pq36.trans Pq66
       have F72 := U71.fe F25 (nS rfl)
       have F73 := U71.fe F26 (nS rfl)
       have F74 := U71.lj F27
       have F75 := U71.li F28
       have F76 := Pq66.fe c3_51 (nS rfl)
       have F77 := Pq66.lj c4_51
       have F78 := Pq66.fe c5_51 (nS rfl)
       have F79 := Pq66.lj c6_51
       have F80 := Pq66.fe c10_51 (nS rfl)
       have F81 := Pq66.fe c13_51 (nS rfl)
       have F82 := U71.ex F25.1
       have go83 := (s_iload (s_aload (s_iload (s_iloadN (s_iloadN (s_aloadN go68 X66 hx (H 36 rfl) rfl rfl) X66 hx (H 37 rfl) rfl) X66 hx (H 38 rfl) rfl) X66 hx (H 39 rfl) rfl) X66 hx (H 40 rfl) rfl rfl) X66 hx (H 41 rfl) rfl)
       obtain ⟨cq84, qa84, qb84⟩ := (F82).cell
       obtain ⟨_, _, ⟨T84, L84, k84, n84⟩, -, X84, ⟨Lc84, hQ84, l84, y84, z84⟩, g84⟩ := c_b go83 (X66.privateBack hx (y := y_9) hown (mvT hZ (own_w hw 264 rfl)) (mvT hZ (own_w hw 265 rfl)) (own_selp (mvT hZ (own_w hw 40 rfl)) (mvP hZ (own_w hw 266 rfl)) (mvT hZ (own_w hw 265 rfl)) (by decide)) (Cond.privateMethod_at (mvP hZ (own_w hw 266 rfl) (args := #[]))) (mvT hZ (own_w hw 267 rfl)) (by decide) (backOf (W := 0) (rm27 l Z a0 hw [] a1 (p2 + 1) (0 : Int32) sz51 a5 oA vs oP c49 u51 s51 sz51 ph51 (T66.heap) n0 Z67 F69 F70 F72 F73 F74 F75 (by have q_ := (n_add (nr p2) nl1 (by omega)); omega) (by have q_ := nl0; have r_ := (nr sz51); omega) va49 F76 F77 F78 F79 F80 F81 ige gc51 gu51 gs51) hZ (own_w hw 267 rfl) (own_w hw 41 rfl) (by decide) (by decide)) (g := mkF m _ _ _) rfl (by rw [hml]; rfl) (Steps.refl _) (a := a1) qa84 qb84 (argsL := [(.int (p2 + 1)), (.int 0), (.int sz51), (.ref a5), (.int 1)]) (rest := []) (lenOf pd21_1 rfl) rfl (by show 2 * 0 + _ ≤ _; exact Nat.le_of_eq rfl) (H 42 rfl) (fun _ _ => ⟨rfl, rfl, (by decide : 0 + 0 ≤ _), (by decide : 0 + 0 ≤ _)⟩))
       dsimp only [Pt.U, Pt.locs, Pt.cells, Pt.slots] at X84 l84 y84 z84 g84 hQ84
       subst l84 y84 z84
       obtain ⟨rfl, Nq84, Kn84, Pq84⟩ := hQ84
       have N84 := Fr.app N66 Nq84
       have KN85 := KN67.trans Kn84
       have Z85 := Nat.le_trans Z67 Pq84.1
       have go86 := cv g84
       have U87 := Pq66.trans Pq84
       have F88 := U87.fe F40 (nS rfl)
       have go89 := (s_aloadN (s_iloadN (s_goto (s_istoreN (s_iconst (s_iinc (s_ifYes (s_iload go86 X84 hx (H 43 rfl) rfl) X84 hx (H 44 rfl) (pc' := 86) rfl (by decide) ((if0 _ _).trans (teq (by decide : (0 : Int32) = 0)).1)) X84 hx (H 46 rfl) rfl (L' := #[vr a1, vi ((p2 + 1) + 1), vi 0, vj q4, .second, vr a5, vi 1, vr c49, vi 0, vi sz51]) rfl) X84 hx (H 47 rfl) (v := 0) rfl) X84 hx (H 48 rfl) (L' := #[vr a1, vi ((p2 + 1) + 1), vi 0, vj q4, .second, vr a5, vi 1, vr c49, vi 0, vi sz51]) rfl) X84 hx (H 49 rfl) (pc' := 0) rfl (by decide)) X84 hx (H 0 rfl) rfl) X84 hx (H 1 rfl) rfl rfl)
       obtain ⟨T90, X90, e90, go90⟩ := gF go89 X84 hx hZ hown (own_w hw 114 rfl) rfl F88.2.1 (H 2 rfl)
       by_cases hc5_91 : ((p2 + 1) + 1) < cc
       ·have ihc5_91 := n_ltI (n_add (n_add (nr p2) nl1 (by omega)) nl1 (by omega)) (nr cc) hc5_91
        have F92 := Pq84.fe F69 (nS rfl)
        have go93 := (s_aloadN (s_icmpNo go90 X90 hx (H 3 rfl) (tlt hc5_91).2.1) X90 hx (H 4 rfl) rfl rfl)
        obtain ⟨T94, X94, e94, go94⟩ := gF go93 X90 hx hZ hown (own_w hw 48 rfl) e90 F92.2.1 (H 5 rfl)
        have F95 := Pq84.ra F70 (nS rfl)
        have go96 := (s_iloadN go94 X94 hx (H 6 rfl) rfl)
        have F98 := F50.pres U87 (hS rfl)
        obtain ⟨cl97, c97, Ar97, hin97, hat97, va97, ct97, R97⟩ := CC.at F95 F98 (j := ((p2 + 1) + 1)) (n_add (n_add (nr p2) nl1 (by omega)) nl1 (by omega)) (nr cc) (by omega)
        obtain ⟨gc99, t99, u99, s99, f99, sz99, ph99, vv99, ⟨gt99, gu99, gs99, gf99⟩, c1_99, c2_99, c3_99, c4_99, c5_99, c6_99, c7_99, c8_99, c9_99, c10_99, c11_99, c12_99, c13_99⟩ := R97
        have F100 := U87.fe F52 (nS rfl)
        have go101 := (s_aloadN (s_astore (s_aaload go96 X94 hx hZ e94 Ar97 rfl hin97 hat97 (H 7 rfl)) X94 hx (H 8 rfl) rfl (L' := #[vr a1, vi ((p2 + 1) + 1), vi 0, vj q4, .second, vr a5, vi 1, vr c97, vi 0, vi sz51]) rfl) X94 hx (H 9 rfl) rfl rfl)
        obtain ⟨T102, X102, e102, go102⟩ := gF go101 X94 hx hZ hown (own_w hw 51 rfl) e94 F100.2.1 (H 10 rfl)
        have F103 := U87.lj F55
        have go104 := (s_iadd (s_iconst (s_iloadN go102 X102 hx (H 11 rfl) rfl) X102 hx (H 12 rfl) (v := 1) rfl) X102 hx (H 13 rfl))
        obtain ⟨x105, go105⟩ := lJ go104 X102 hx hZ e102 F103 (n_in (n_add (n_add (n_add (nr p2) nl1 (by omega)) nl1 (by omega)) nl1 (by omega)) nl4 (by omega)) (H 14 rfl)
        have go106 := (s_lcmp (s_lloadN go105 X102 hx (H 15 rfl) rfl) X102 hx (H 16 rfl))
        by_cases hc26_107 : x105 < q4
        ·have go108 := (s_aload (s_ifYes (s_iload (s_istore (s_iconst (s_ifYes go106 X102 hx (H 17 rfl) (pc' := 33) rfl (by decide) ((if0 _ _).trans (tlt ((lw_lt _ _).mpr hc26_107)).1)) X102 hx (H 20 rfl) (v := 0) rfl) X102 hx (H 21 rfl) (L' := #[vr a1, vi ((p2 + 1) + 1), vi 0, vj q4, .second, vr a5, vi 1, vr c97, vi 0, vi sz51]) rfl) X102 hx (H 22 rfl) rfl) X102 hx (H 23 rfl) (pc' := 50) rfl (by decide) ((if0 _ _).trans (teq (by decide : (0 : Int32) = 0)).1)) X102 hx (H 28 rfl) rfl rfl)
         obtain ⟨T109, X109, e109, go109⟩ := gF go108 X102 hx hZ hown (own_w hw 112 rfl) e102 c10_99.2.1 (H 29 rfl)
         have go111 := (s_iloadN (s_iload (s_istore go109 X109 hx (H 30 rfl) (L' := #[vr a1, vi ((p2 + 1) + 1), vi 0, vj q4, .second, vr a5, vi 1, vr c97, vi 0, vi sz99]) rfl) X109 hx (H 31 rfl) rfl) X109 hx (H 32 rfl) rfl)
         have hd110 : (0 : Int32) < sz99 := n_lt nl0 (nr sz99) (by omega)
         have F112 := Pq84.fe F3_66 (nS rfl)
         have go113 := (s_aload (s_icmpNo go111 X109 hx (H 33 rfl) (tlt hd110).2.2.2) X109 hx (H 34 rfl) rfl rfl)
         obtain ⟨_, _, ⟨T114, L114, k114, n114⟩, -, X114, ⟨Lc114, hQ114, l114, y114, z114⟩, g114⟩ := c_s go113 (Jvm.LawKit.callS X109 hx (y := y_7) hown (mvT hZ (own_w hw 250 rfl)) (mvT hZ (own_w hw 251 rfl)) (mvT hZ (own_w hw 41 rfl)) (mvT hZ (own_w hw 252 rfl)) (by decide) (backOf (W := 0) (rm25 l Z a0 hw [] c97 vv99 oB w2_66 (T84.heap) n0 Z85 c12_99 c9_99 F112 gc99 igb) hZ (own_w hw 252 rfl) (own_w hw 41 rfl) (by decide) (by decide)) (g := mkF m _ _ _) rfl (by rw [hml]; rfl) (argsL := [(.ref c97)]) (rest := []) (lenOf pd21_0 rfl) rfl (by show 2 * 0 + _ ≤ _; exact Nat.le_of_eq rfl) (H 35 rfl) (fun _ _ => ⟨rfl, e109, (by decide : 0 + 0 ≤ _), (by decide : 0 + 0 ≤ _)⟩))
         dsimp only [Pt.U, Pt.locs, Pt.cells, Pt.slots] at X114 l114 y114 z114 g114 hQ114
         subst l114 y114 z114
         obtain ⟨x2_114, w2_114, rfl, Nq114, Kn114, Pq114, F1_114, F3_114⟩ := hQ114
         have N114 := Fr.app N84 Nq114
         have KN115 := KN85.trans Kn114
         have Z115 := Nat.le_trans Z85 Pq114.1
         have go116 := cv g114
         have F117 := Pq114.fe F92 (nS rfl)
         have F118 := Pq114.ra F95 (nS rfl)
         have U119 := Pq84.trans Pq114
         have F120 := U119.fe F72 (nS rfl)
         have F121 := U119.fe F73 (nS rfl)
         have F122 := U119.lj F74
         have F123 := U119.li F75
         have F124 := Pq114.fe c3_99 (nS rfl)
         have F125 := Pq114.lj c4_99
         have F126 := Pq114.fe c5_99 (nS rfl)
         have F127 := Pq114.lj c6_99
         have F128 := Pq114.fe c10_99 (nS rfl)
         have F129 := Pq114.fe c13_99 (nS rfl)
         have F130 := U119.ex F82
         have go131 := (s_iload (s_aload (s_iload (s_iloadN (s_iloadN (s_aloadN go116 X114 hx (H 36 rfl) rfl rfl) X114 hx (H 37 rfl) rfl) X114 hx (H 38 rfl) rfl) X114 hx (H 39 rfl) rfl) X114 hx (H 40 rfl) rfl rfl) X114 hx (H 41 rfl) rfl)
         obtain ⟨cq132, qa132, qb132⟩ := (F130).cell
         obtain ⟨_, _, ⟨T132, L132, k132, n132⟩, -, X132, ⟨Lc132, hQ132, l132, y132, z132⟩, g132⟩ := c_b go131 (X114.privateBack hx (y := y_9) hown (mvT hZ (own_w hw 264 rfl)) (mvT hZ (own_w hw 265 rfl)) (own_selp (mvT hZ (own_w hw 40 rfl)) (mvP hZ (own_w hw 266 rfl)) (mvT hZ (own_w hw 265 rfl)) (by decide)) (Cond.privateMethod_at (mvP hZ (own_w hw 266 rfl) (args := #[]))) (mvT hZ (own_w hw 267 rfl)) (by decide) (backOf (W := 0) (rm27 l Z a0 hw [] a1 ((p2 + 1) + 1) (0 : Int32) sz99 a5 oA vs oP c97 u99 s99 sz99 ph99 (T114.heap) n0 Z115 F117 F118 F120 F121 F122 F123 (by have q_ := (n_add (n_add (nr p2) nl1 (by omega)) nl1 (by omega)); omega) (by have q_ := nl0; have r_ := (nr sz99); omega) va97 F124 F125 F126 F127 F128 F129 ige gc99 gu99 gs99) hZ (own_w hw 267 rfl) (own_w hw 41 rfl) (by decide) (by decide)) (g := mkF m _ _ _) rfl (by rw [hml]; rfl) (Steps.refl _) (a := a1) qa132 qb132 (argsL := [(.int ((p2 + 1) + 1)), (.int 0), (.int sz99), (.ref a5), (.int 1)]) (rest := []) (lenOf pd21_1 rfl) rfl (by show 2 * 0 + _ ≤ _; exact Nat.le_of_eq rfl) (H 42 rfl) (fun _ _ => ⟨rfl, rfl, (by decide : 0 + 0 ≤ _), (by decide : 0 + 0 ≤ _)⟩))
         dsimp only [Pt.U, Pt.locs, Pt.cells, Pt.slots] at X132 l132 y132 z132 g132 hQ132
         subst l132 y132 z132
         obtain ⟨rfl, Nq132, Kn132, Pq132⟩ := hQ132
         have N132 := Fr.app N114 Nq132
         have KN133 := KN115.trans Kn132
         have Z133 := Nat.le_trans Z115 Pq132.1
         have go134 := cv g132
         have U135 := Pq114.trans Pq132
         have F136 := U135.fe F88 (nS rfl)
         have go137 := (s_aloadN (s_iloadN (s_goto (s_istoreN (s_iconst (s_iinc (s_ifYes (s_iload go134 X132 hx (H 43 rfl) rfl) X132 hx (H 44 rfl) (pc' := 86) rfl (by decide) ((if0 _ _).trans (teq (by decide : (0 : Int32) = 0)).1)) X132 hx (H 46 rfl) rfl (L' := #[vr a1, vi (((p2 + 1) + 1) + 1), vi 0, vj q4, .second, vr a5, vi 1, vr c97, vi 0, vi sz99]) rfl) X132 hx (H 47 rfl) (v := 0) rfl) X132 hx (H 48 rfl) (L' := #[vr a1, vi (((p2 + 1) + 1) + 1), vi 0, vj q4, .second, vr a5, vi 1, vr c97, vi 0, vi sz99]) rfl) X132 hx (H 49 rfl) (pc' := 0) rfl (by decide)) X132 hx (H 0 rfl) rfl) X132 hx (H 1 rfl) rfl rfl)
         obtain ⟨T138, X138, e138, go138⟩ := gF go137 X132 hx hZ hown (own_w hw 114 rfl) rfl F136.2.1 (H 2 rfl)
         have hd139 : ¬ ((((p2 + 1) + 1) + 1) < cc) := n_nlt (n_add (n_add (n_add (nr p2) nl1 (by omega)) nl1 (by omega)) nl1 (by omega)) (nr cc) (by omega)
         have go140 := (s_icmpYes go138 X138 hx (H 3 rfl) (pc' := 94) rfl (by decide) (flt hd139).2.1)
         refine own_f0 (Q := Q21 Z a0 a1 p2 p3 q4 a5 I h0 n0) Bd.notSynchronized hx Bd.returns pre0 X138 go140 (H 50 rfl) e138 (by decide) (by decide) ?_
         have U141 := Pq20.trans (Pq36.trans (Pq66.trans (Pq84.trans (Pq114.trans Pq132))))
         have F142 := U141.fe iv_1 (nS rfl)
         have F143 := Pq132.fe F120 (nS rfl)
         have F144 := Pq132.fe F117 (nS rfl)
         have F145 := U135.fe F100 (nS rfl)
         have F146 := Pq132.fe F121 (nS rfl)
         have F147 := U141.fe iv_7 (nS rfl)
         have F148 := U141.fe iv_8 (nS rfl)
         have F149 := U141.fe iv_9 (nS rfl)
         have F150 := Pq132.ra F118 (nS rfl)
         have F151 := U141.fe iv_15 (nS rfl)
         have F152 := Pq132.fe F3_114 (nS rfl)
         have F153 := F98.pres U135 (hS rfl)
         have F154 := U135.lj F103
         have F155 := Pq132.lj F122
         exact ⟨rfl, N132, KN133, ⟨oB, oA, oF, oP, vs, cc, lf, sc, ss, w2_114, sg, ⟨iga, igb, igc, igd, ige⟩, F142, F143, F144, F145, F146, F136, F147, F148, F149, ⟨(by have q_ := (nr lf); omega), (by have q_ := (nr sc); omega), (by have q_ := (nr ss); omega)⟩, F154, F155, F150, (F153.top (Nat.le_refl _)), F151, F152, iv_17⟩⟩
        have go156 := (s_lloadN (s_aload (s_ifNo (s_iload (s_istore (s_goto (s_iconst (s_ifNo go106 X102 hx (H 17 rfl) ((if0 _ _).trans (flt (fun q => hc26_107 ((lw_lt _ _).mp q))).1)) X102 hx (H 18 rfl) (v := 1) rfl) X102 hx (H 19 rfl) (pc' := 34) rfl (by decide)) X102 hx (H 21 rfl) (L' := #[vr a1, vi ((p2 + 1) + 1), vi 0, vj q4, .second, vr a5, vi 1, vr c97, vi 1, vi sz51]) rfl) X102 hx (H 22 rfl) rfl) X102 hx (H 23 rfl) ((if0 _ _).trans (feq (by decide : ¬ ((1 : Int32) = 0))).1)) X102 hx (H 24 rfl) rfl rfl) X102 hx (H 25 rfl) rfl)
        obtain ⟨_, _, ⟨T157, L157, k157, n157⟩, -, X157, ⟨Lc157, hQ157, l157, y157, z157⟩, g157⟩ := c_s go156 (Jvm.LawKit.callS X102 hx (y := y_5) hown (mvT hZ (own_w hw 234 rfl)) (mvT hZ (own_w hw 235 rfl)) (mvT hZ (own_w hw 41 rfl)) (mvT hZ (own_w hw 236 rfl)) (by decide) (backOf (W := 0) (rm22 l Z a0 hw [] c97 q4 t99 sz99 (T84.heap) n0 Z85 c1_99 c2_99 c10_99 ⟨c11_99.1, c11_99.2.1⟩) hZ (own_w hw 236 rfl) (own_w hw 41 rfl) (by decide) (by decide)) (g := mkF m _ _ _) rfl (by rw [hml]; rfl) (argsL := [(.ref c97), (.long q4)]) (rest := []) (lenOf pd21_2 rfl) rfl (by show 2 * 0 + _ ≤ _; exact Nat.le_of_eq rfl) (H 26 rfl) (fun _ _ => ⟨rfl, e102, (by decide : 0 + 0 ≤ _), (by decide : 0 + 0 ≤ _)⟩))
        dsimp only [Pt.U, Pt.locs, Pt.cells, Pt.slots] at X157 l157 y157 z157 g157 hQ157
        subst l157 y157 z157
        obtain ⟨r_157, rfl, Nq157, eh157, hr_157⟩ := hQ157
        have N157 := Fr.app N84 Nq157
        have go158 := cr g157
        have go159 := (s_iloadN (s_iload (s_istore (s_goto go158 X157 hx (H 27 rfl) (pc' := 55) rfl (by decide)) X157 hx (H 30 rfl) (L' := #[vr a1, vi ((p2 + 1) + 1), vi 0, vj q4, .second, vr a5, vi 1, vr c97, vi 1, vi r_157]) rfl) X157 hx (H 31 rfl) rfl) X157 hx (H 32 rfl) rfl)
        by_cases hc60_160 : (0 : Int32) < r_157
        ·have ihc60_160 := n_ltI nl0 (nr r_157) hc60_160
         have F161 := Pq84.fe F3_66 (nS rfl)
         have go162 := (s_aload (s_icmpNo go159 X157 hx (H 33 rfl) (tlt hc60_160).2.2.2) X157 hx (H 34 rfl) rfl rfl)
         obtain ⟨_, _, ⟨T163, L163, k163, n163⟩, -, X163, ⟨Lc163, hQ163, l163, y163, z163⟩, g163⟩ := c_s go162 (Jvm.LawKit.callS X157 hx (y := y_7) hown (mvT hZ (own_w hw 250 rfl)) (mvT hZ (own_w hw 251 rfl)) (mvT hZ (own_w hw 41 rfl)) (mvT hZ (own_w hw 252 rfl)) (by decide) (backOf (W := 0) (rm25 l Z a0 hw [] c97 vv99 oB w2_66 (T84.heap) n0 Z85 c12_99 c9_99 F161 gc99 igb) hZ (own_w hw 252 rfl) (own_w hw 41 rfl) (by decide) (by decide)) (g := mkF m _ _ _) rfl (by rw [hml]; rfl) (argsL := [(.ref c97)]) (rest := []) (lenOf pd21_0 rfl) rfl (by show 2 * 0 + _ ≤ _; exact Nat.le_of_eq rfl) (H 35 rfl) (fun _ _ => ⟨rfl, eh157, (by decide : 0 + 0 ≤ _), (by decide : 0 + 0 ≤ _)⟩))
         dsimp only [Pt.U, Pt.locs, Pt.cells, Pt.slots] at X163 l163 y163 z163 g163 hQ163
         subst l163 y163 z163
         obtain ⟨x2_163, w2_163, rfl, Nq163, Kn163, Pq163, F1_163, F3_163⟩ := hQ163
         have N163 := Fr.app N157 Nq163
         have KN164 := KN85.trans Kn163
         have Z164 := Nat.le_trans Z85 Pq163.1
         have go165 := cv g163
         have F166 := Pq163.fe F92 (nS rfl)
         have F167 := Pq163.ra F95 (nS rfl)
         have U168 := Pq84.trans Pq163
         have F169 := U168.fe F72 (nS rfl)
         have F170 := U168.fe F73 (nS rfl)
         have F171 := U168.lj F74
         have F172 := U168.li F75
         have F173 := Pq163.fe c3_99 (nS rfl)
         have F174 := Pq163.lj c4_99
         have F175 := Pq163.fe c5_99 (nS rfl)
         have F176 := Pq163.lj c6_99
         have F177 := Pq163.fe c10_99 (nS rfl)
         have F178 := Pq163.fe c13_99 (nS rfl)
         have F179 := U168.ex F82
         have go180 := (s_iload (s_aload (s_iload (s_iloadN (s_iloadN (s_aloadN go165 X163 hx (H 36 rfl) rfl rfl) X163 hx (H 37 rfl) rfl) X163 hx (H 38 rfl) rfl) X163 hx (H 39 rfl) rfl) X163 hx (H 40 rfl) rfl rfl) X163 hx (H 41 rfl) rfl)
         obtain ⟨cq181, qa181, qb181⟩ := (F179).cell
         obtain ⟨_, _, ⟨T181, L181, k181, n181⟩, -, X181, ⟨Lc181, hQ181, l181, y181, z181⟩, g181⟩ := c_b go180 (X163.privateBack hx (y := y_9) hown (mvT hZ (own_w hw 264 rfl)) (mvT hZ (own_w hw 265 rfl)) (own_selp (mvT hZ (own_w hw 40 rfl)) (mvP hZ (own_w hw 266 rfl)) (mvT hZ (own_w hw 265 rfl)) (by decide)) (Cond.privateMethod_at (mvP hZ (own_w hw 266 rfl) (args := #[]))) (mvT hZ (own_w hw 267 rfl)) (by decide) (backOf (W := 0) (rm27 l Z a0 hw [] a1 ((p2 + 1) + 1) (0 : Int32) r_157 a5 oA vs oP c97 u99 s99 sz99 ph99 (T163.heap) n0 Z164 F166 F167 F169 F170 F171 F172 (by have q_ := (n_add (n_add (nr p2) nl1 (by omega)) nl1 (by omega)); omega) (by have q_ := nl0; have r_ := (nr r_157); omega) va97 F173 F174 F175 F176 F177 F178 ige gc99 gu99 gs99) hZ (own_w hw 267 rfl) (own_w hw 41 rfl) (by decide) (by decide)) (g := mkF m _ _ _) rfl (by rw [hml]; rfl) (Steps.refl _) (a := a1) qa181 qb181 (argsL := [(.int ((p2 + 1) + 1)), (.int 0), (.int r_157), (.ref a5), (.int 1)]) (rest := []) (lenOf pd21_1 rfl) rfl (by show 2 * 0 + _ ≤ _; exact Nat.le_of_eq rfl) (H 42 rfl) (fun _ _ => ⟨rfl, rfl, (by decide : 0 + 0 ≤ _), (by decide : 0 + 0 ≤ _)⟩))
         dsimp only [Pt.U, Pt.locs, Pt.cells, Pt.slots] at X181 l181 y181 z181 g181 hQ181
         subst l181 y181 z181
         obtain ⟨rfl, Nq181, Kn181, Pq181⟩ := hQ181
         have N181 := Fr.app N163 Nq181
         have KN182 := KN164.trans Kn181
         have Z182 := Nat.le_trans Z164 Pq181.1
         have go183 := cv g181
         have go184 := (s_ifNo (s_iload go183 X181 hx (H 43 rfl) rfl) X181 hx (H 44 rfl) ((if0 _ _).trans (feq (by decide : ¬ ((1 : Int32) = 0))).1))
         refine own_f0 (Q := Q21 Z a0 a1 p2 p3 q4 a5 I h0 n0) Bd.notSynchronized hx Bd.returns pre0 X181 go184 (H 45 rfl) rfl (by decide) (by decide) ?_
         have U185 := Pq20.trans (Pq36.trans (Pq66.trans (Pq84.trans (Pq163.trans Pq181))))
         have F186 := U185.fe iv_1 (nS rfl)
         have F187 := Pq181.fe F169 (nS rfl)
         have F188 := Pq181.fe F166 (nS rfl)
         have U189 := Pq163.trans Pq181
         have F190 := U189.fe F100 (nS rfl)
         have F191 := Pq181.fe F170 (nS rfl)
         have F192 := U189.fe F88 (nS rfl)
         have F193 := U185.fe iv_7 (nS rfl)
         have F194 := U185.fe iv_8 (nS rfl)
         have F195 := U185.fe iv_9 (nS rfl)
         have F196 := Pq181.ra F167 (nS rfl)
         have F197 := U185.fe iv_15 (nS rfl)
         have F198 := Pq181.fe F3_163 (nS rfl)
         have F199 := F98.pres U189 (hS rfl)
         have F200 := U189.lj F103
         have F201 := Pq181.lj F171
         exact ⟨rfl, N181, KN182, ⟨oB, oA, oF, oP, vs, cc, lf, sc, ss, w2_163, sg, ⟨iga, igb, igc, igd, ige⟩, F186, F187, F188, F190, F191, F192, F193, F194, F195, ⟨(by have q_ := (nr lf); omega), (by have q_ := (nr sc); omega), (by have q_ := (nr ss); omega)⟩, F200, F201, F196, (F199.top (Nat.le_refl _)), F197, F198, iv_17⟩⟩
        have ihc60_160 := n_nltI nl0 (nr r_157) hc60_160
        have go202 := (s_ifNo (s_iload (s_icmpYes go159 X157 hx (H 33 rfl) (pc' := 80) rfl (by decide) (flt hc60_160).2.2.2) X157 hx (H 43 rfl) rfl) X157 hx (H 44 rfl) ((if0 _ _).trans (feq (by decide : ¬ ((1 : Int32) = 0))).1))
        refine own_f0 (Q := Q21 Z a0 a1 p2 p3 q4 a5 I h0 n0) Bd.notSynchronized hx Bd.returns pre0 X157 go202 (H 45 rfl) eh157 (by decide) (by decide) ?_
        have U203 := Pq20.trans (Pq36.trans (Pq66.trans Pq84))
        have F204 := U203.fe iv_1 (nS rfl)
        have F205 := Pq84.fe F72 (nS rfl)
        have F206 := Pq84.fe F73 (nS rfl)
        have F207 := U203.fe iv_7 (nS rfl)
        have F208 := U203.fe iv_8 (nS rfl)
        have F209 := U203.fe iv_9 (nS rfl)
        have F210 := U203.fe iv_15 (nS rfl)
        have F211 := Pq84.fe F3_66 (nS rfl)
        have F212 := Pq84.lj F74
        exact ⟨rfl, N157, KN85, ⟨oB, oA, oF, oP, vs, cc, lf, sc, ss, w2_66, sg, ⟨iga, igb, igc, igd, ige⟩, F204, F205, F92, F100, F206, F88, F207, F208, F209, ⟨(by have q_ := (nr lf); omega), (by have q_ := (nr sc); omega), (by have q_ := (nr ss); omega)⟩, F103, F212, F95, (F98.top (Nat.le_refl _)), F210, F211, iv_17⟩⟩
       have ihc5_91 := n_nltI (n_add (n_add (nr p2) nl1 (by omega)) nl1 (by omega)) (nr cc) hc5_91
       have go213 := (s_icmpYes go90 X90 hx (H 3 rfl) (pc' := 94) rfl (by decide) (flt hc5_91).2.1)
       refine own_f0 (Q := Q21 Z a0 a1 p2 p3 q4 a5 I h0 n0) Bd.notSynchronized hx Bd.returns pre0 X90 go213 (H 50 rfl) e90 (by decide) (by decide) ?_
       have U214 := Pq20.trans (Pq36.trans (Pq66.trans Pq84))
       have F215 := U214.fe iv_1 (nS rfl)
       have F216 := Pq84.fe F72 (nS rfl)
       have F217 := Pq84.fe F69 (nS rfl)
       have F218 := U87.fe F52 (nS rfl)
       have F219 := Pq84.fe F73 (nS rfl)
       have F220 := U214.fe iv_7 (nS rfl)
       have F221 := U214.fe iv_8 (nS rfl)
       have F222 := U214.fe iv_9 (nS rfl)
       have F223 := Pq84.ra F70 (nS rfl)
       have F224 := U214.fe iv_15 (nS rfl)
       have F225 := Pq84.fe F3_66 (nS rfl)
       have F226 := F50.pres U87 (hS rfl)
       have F227 := U87.lj F55
       have F228 := Pq84.lj F74
       exact ⟨rfl, N84, KN85, ⟨oB, oA, oF, oP, vs, cc, lf, sc, ss, w2_66, sg, ⟨iga, igb, igc, igd, ige⟩, F215, F216, F217, F218, F219, F88, F220, F221, F222, ⟨(by have q_ := (nr lf); omega), (by have q_ := (nr sc); omega), (by have q_ := (nr ss); omega)⟩, F227, F228, F223, (F226.top (Nat.le_refl _)), F224, F225, iv_17⟩⟩
      have go229 := (s_lloadN (s_aload (s_ifNo (s_iload (s_istore (s_goto (s_iconst (s_ifNo go58 X54 hx (H 17 rfl) ((if0 _ _).trans (flt (fun q => hc26_59 ((lw_lt _ _).mp q))).1)) X54 hx (H 18 rfl) (v := 1) rfl) X54 hx (H 19 rfl) (pc' := 34) rfl (by decide)) X54 hx (H 21 rfl) (L' := #[vr a1, vi (p2 + 1), vi 0, vj q4, .second, vr a5, vi 1, vr c49, vi 1, vi sz8]) rfl) X54 hx (H 22 rfl) rfl) X54 hx (H 23 rfl) ((if0 _ _).trans (feq (by decide : ¬ ((1 : Int32) = 0))).1)) X54 hx (H 24 rfl) rfl rfl) X54 hx (H 25 rfl) rfl)
      obtain ⟨_, _, ⟨T230, L230, k230, n230⟩, -, X230, ⟨Lc230, hQ230, l230, y230, z230⟩, g230⟩ := c_s go229 (Jvm.LawKit.callS X54 hx (y := y_5) hown (mvT hZ (own_w hw 234 rfl)) (mvT hZ (own_w hw 235 rfl)) (mvT hZ (own_w hw 41 rfl)) (mvT hZ (own_w hw 236 rfl)) (by decide) (backOf (W := 0) (rm22 l Z a0 hw [] c49 q4 t51 sz51 (T36.heap) n0 Z37 c1_51 c2_51 c10_51 ⟨c11_51.1, c11_51.2.1⟩) hZ (own_w hw 236 rfl) (own_w hw 41 rfl) (by decide) (by decide)) (g := mkF m _ _ _) rfl (by rw [hml]; rfl) (argsL := [(.ref c49), (.long q4)]) (rest := []) (lenOf pd21_2 rfl) rfl (by show 2 * 0 + _ ≤ _; exact Nat.le_of_eq rfl) (H 26 rfl) (fun _ _ => ⟨rfl, e54, (by decide : 0 + 0 ≤ _), (by decide : 0 + 0 ≤ _)⟩))
      dsimp only [Pt.U, Pt.locs, Pt.cells, Pt.slots] at X230 l230 y230 z230 g230 hQ230
      subst l230 y230 z230
      obtain ⟨r_230, rfl, Nq230, eh230, hr_230⟩ := hQ230
      have N230 := Fr.app N36 Nq230
      have go231 := cr g230
      have go232 := (s_iloadN (s_iload (s_istore (s_goto go231 X230 hx (H 27 rfl) (pc' := 55) rfl (by decide)) X230 hx (H 30 rfl) (L' := #[vr a1, vi (p2 + 1), vi 0, vj q4, .second, vr a5, vi 1, vr c49, vi 1, vi r_230]) rfl) X230 hx (H 31 rfl) rfl) X230 hx (H 32 rfl) rfl)
      by_cases hc60_233 : (0 : Int32) < r_230
      ·have ihc60_233 := n_ltI nl0 (nr r_230) hc60_233
       have F234 := Pq36.fe F3_20 (nS rfl)
       have go235 := (s_aload (s_icmpNo go232 X230 hx (H 33 rfl) (tlt hc60_233).2.2.2) X230 hx (H 34 rfl) rfl rfl)
       obtain ⟨_, _, ⟨T236, L236, k236, n236⟩, -, X236, ⟨Lc236, hQ236, l236, y236, z236⟩, g236⟩ := c_s go235 (Jvm.LawKit.callS X230 hx (y := y_7) hown (mvT hZ (own_w hw 250 rfl)) (mvT hZ (own_w hw 251 rfl)) (mvT hZ (own_w hw 41 rfl)) (mvT hZ (own_w hw 252 rfl)) (by decide) (backOf (W := 0) (rm25 l Z a0 hw [] c49 vv51 oB w2_20 (T36.heap) n0 Z37 c12_51 c9_51 F234 gc51 igb) hZ (own_w hw 252 rfl) (own_w hw 41 rfl) (by decide) (by decide)) (g := mkF m _ _ _) rfl (by rw [hml]; rfl) (argsL := [(.ref c49)]) (rest := []) (lenOf pd21_0 rfl) rfl (by show 2 * 0 + _ ≤ _; exact Nat.le_of_eq rfl) (H 35 rfl) (fun _ _ => ⟨rfl, eh230, (by decide : 0 + 0 ≤ _), (by decide : 0 + 0 ≤ _)⟩))
       dsimp only [Pt.U, Pt.locs, Pt.cells, Pt.slots] at X236 l236 y236 z236 g236 hQ236
       subst l236 y236 z236
       obtain ⟨x2_236, w2_236, rfl, Nq236, Kn236, Pq236, F1_236, F3_236⟩ := hQ236
       have N236 := Fr.app N230 Nq236
       have KN237 := KN37.trans Kn236
       have Z237 := Nat.le_trans Z37 Pq236.1
       have go238 := cv g236
       have F239 := Pq236.fe F44 (nS rfl)
       have F240 := Pq236.ra F47 (nS rfl)
       have U241 := Pq36.trans Pq236
       have F242 := U241.fe F25 (nS rfl)
       have F243 := U241.fe F26 (nS rfl)
       have F244 := U241.lj F27
       have F245 := U241.li F28
       have F246 := Pq236.fe c3_51 (nS rfl)
       have F247 := Pq236.lj c4_51
       have F248 := Pq236.fe c5_51 (nS rfl)
       have F249 := Pq236.lj c6_51
       have F250 := Pq236.fe c10_51 (nS rfl)
       have F251 := Pq236.fe c13_51 (nS rfl)
       have F252 := U241.ex F25.1
       have go253 := (s_iload (s_aload (s_iload (s_iloadN (s_iloadN (s_aloadN go238 X236 hx (H 36 rfl) rfl rfl) X236 hx (H 37 rfl) rfl) X236 hx (H 38 rfl) rfl) X236 hx (H 39 rfl) rfl) X236 hx (H 40 rfl) rfl rfl) X236 hx (H 41 rfl) rfl)
       obtain ⟨cq254, qa254, qb254⟩ := (F252).cell
       obtain ⟨_, _, ⟨T254, L254, k254, n254⟩, -, X254, ⟨Lc254, hQ254, l254, y254, z254⟩, g254⟩ := c_b go253 (X236.privateBack hx (y := y_9) hown (mvT hZ (own_w hw 264 rfl)) (mvT hZ (own_w hw 265 rfl)) (own_selp (mvT hZ (own_w hw 40 rfl)) (mvP hZ (own_w hw 266 rfl)) (mvT hZ (own_w hw 265 rfl)) (by decide)) (Cond.privateMethod_at (mvP hZ (own_w hw 266 rfl) (args := #[]))) (mvT hZ (own_w hw 267 rfl)) (by decide) (backOf (W := 0) (rm27 l Z a0 hw [] a1 (p2 + 1) (0 : Int32) r_230 a5 oA vs oP c49 u51 s51 sz51 ph51 (T236.heap) n0 Z237 F239 F240 F242 F243 F244 F245 (by have q_ := (n_add (nr p2) nl1 (by omega)); omega) (by have q_ := nl0; have r_ := (nr r_230); omega) va49 F246 F247 F248 F249 F250 F251 ige gc51 gu51 gs51) hZ (own_w hw 267 rfl) (own_w hw 41 rfl) (by decide) (by decide)) (g := mkF m _ _ _) rfl (by rw [hml]; rfl) (Steps.refl _) (a := a1) qa254 qb254 (argsL := [(.int (p2 + 1)), (.int 0), (.int r_230), (.ref a5), (.int 1)]) (rest := []) (lenOf pd21_1 rfl) rfl (by show 2 * 0 + _ ≤ _; exact Nat.le_of_eq rfl) (H 42 rfl) (fun _ _ => ⟨rfl, rfl, (by decide : 0 + 0 ≤ _), (by decide : 0 + 0 ≤ _)⟩))
       dsimp only [Pt.U, Pt.locs, Pt.cells, Pt.slots] at X254 l254 y254 z254 g254 hQ254
       subst l254 y254 z254
       obtain ⟨rfl, Nq254, Kn254, Pq254⟩ := hQ254
       have N254 := Fr.app N236 Nq254
       have KN255 := KN237.trans Kn254
       have Z255 := Nat.le_trans Z237 Pq254.1
       have go256 := cv g254
       have go257 := (s_ifNo (s_iload go256 X254 hx (H 43 rfl) rfl) X254 hx (H 44 rfl) ((if0 _ _).trans (feq (by decide : ¬ ((1 : Int32) = 0))).1))
       refine own_f0 (Q := Q21 Z a0 a1 p2 p3 q4 a5 I h0 n0) Bd.notSynchronized hx Bd.returns pre0 X254 go257 (H 45 rfl) rfl (by decide) (by decide) ?_
       have U258 := Pq20.trans (Pq36.trans (Pq236.trans Pq254))
       have F259 := U258.fe iv_1 (nS rfl)
       have F260 := Pq254.fe F242 (nS rfl)
       have F261 := Pq254.fe F239 (nS rfl)
       have U262 := Pq236.trans Pq254
       have F263 := U262.fe F52 (nS rfl)
       have F264 := Pq254.fe F243 (nS rfl)
       have F265 := U262.fe F40 (nS rfl)
       have F266 := U258.fe iv_7 (nS rfl)
       have F267 := U258.fe iv_8 (nS rfl)
       have F268 := U258.fe iv_9 (nS rfl)
       have F269 := Pq254.ra F240 (nS rfl)
       have F270 := U258.fe iv_15 (nS rfl)
       have F271 := Pq254.fe F3_236 (nS rfl)
       have F272 := F50.pres U262 (hS rfl)
       have F273 := U262.lj F55
       have F274 := Pq254.lj F244
       exact ⟨rfl, N254, KN255, ⟨oB, oA, oF, oP, vs, cc, lf, sc, ss, w2_236, sg, ⟨iga, igb, igc, igd, ige⟩, F259, F260, F261, F263, F264, F265, F266, F267, F268, ⟨(by have q_ := (nr lf); omega), (by have q_ := (nr sc); omega), (by have q_ := (nr ss); omega)⟩, F273, F274, F269, (F272.top (Nat.le_refl _)), F270, F271, iv_17⟩⟩
      have ihc60_233 := n_nltI nl0 (nr r_230) hc60_233
      have go275 := (s_ifNo (s_iload (s_icmpYes go232 X230 hx (H 33 rfl) (pc' := 80) rfl (by decide) (flt hc60_233).2.2.2) X230 hx (H 43 rfl) rfl) X230 hx (H 44 rfl) ((if0 _ _).trans (feq (by decide : ¬ ((1 : Int32) = 0))).1))
      refine own_f0 (Q := Q21 Z a0 a1 p2 p3 q4 a5 I h0 n0) Bd.notSynchronized hx Bd.returns pre0 X230 go275 (H 45 rfl) eh230 (by decide) (by decide) ?_
      have F276 := U39.fe iv_1 (nS rfl)
      have F277 := Pq36.fe F25 (nS rfl)
      have F278 := Pq36.fe F26 (nS rfl)
      have F279 := U39.fe iv_7 (nS rfl)
      have F280 := U39.fe iv_8 (nS rfl)
      have F281 := U39.fe iv_9 (nS rfl)
      have F282 := U39.fe iv_15 (nS rfl)
      have F283 := Pq36.fe F3_20 (nS rfl)
      have F284 := Pq36.lj F27
      exact ⟨rfl, N230, KN37, ⟨oB, oA, oF, oP, vs, cc, lf, sc, ss, w2_20, sg, ⟨iga, igb, igc, igd, ige⟩, F276, F277, F44, F52, F278, F40, F279, F280, F281, ⟨(by have q_ := (nr lf); omega), (by have q_ := (nr sc); omega), (by have q_ := (nr ss); omega)⟩, F55, F284, F47, (F50.top (Nat.le_refl _)), F282, F283, iv_17⟩⟩
     have ihc5_43 := n_nltI (n_add (nr p2) nl1 (by omega)) (nr cc) hc5_43
     have go285 := (s_icmpYes go42 X42 hx (H 3 rfl) (pc' := 94) rfl (by decide) (flt hc5_43).2.1)
     refine own_f0 (Q := Q21 Z a0 a1 p2 p3 q4 a5 I h0 n0) Bd.notSynchronized hx Bd.returns pre0 X42 go285 (H 50 rfl) e42 (by decide) (by decide) ?_
     have F286 := U39.fe iv_1 (nS rfl)
     have F287 := Pq36.fe F25 (nS rfl)
     have F288 := Pq36.fe F23 (nS rfl)
     have F289 := U39.fe iv_4 (nS rfl)
     have F290 := Pq36.fe F26 (nS rfl)
     have F291 := U39.fe iv_7 (nS rfl)
     have F292 := U39.fe iv_8 (nS rfl)
     have F293 := U39.fe iv_9 (nS rfl)
     have F294 := Pq36.ra F24 (nS rfl)
     have F295 := U39.fe iv_15 (nS rfl)
     have F296 := Pq36.fe F3_20 (nS rfl)
     have F297 := iv_14.pres U39 (hS rfl)
     have F298 := U39.lj iv_11
     have F299 := Pq36.lj F27
     exact ⟨rfl, N36, KN37, ⟨oB, oA, oF, oP, vs, cc, lf, sc, ss, w2_20, sg, ⟨iga, igb, igc, igd, ige⟩, F286, F287, F288, F289, F290, F40, F291, F292, F293, ⟨(by have q_ := (nr lf); omega), (by have q_ := (nr sc); omega), (by have q_ := (nr ss); omega)⟩, F298, F299, F294, (F297.top (Nat.le_refl _)), F295, F296, iv_17⟩⟩
    have ihc60_18 := n_nltI (nr p3) (nr sz8) hc60_18
    have go300 := (s_aloadN (s_iloadN (s_goto (s_istoreN (s_iconst (s_iinc (s_ifYes (s_iload (s_icmpYes go17 X16 hx (H 33 rfl) (pc' := 80) rfl (by decide) (flt hc60_18).2.2.2) X16 hx (H 43 rfl) rfl) X16 hx (H 44 rfl) (pc' := 86) rfl (by decide) ((if0 _ _).trans (teq (by decide : (0 : Int32) = 0)).1)) X16 hx (H 46 rfl) rfl (L' := #[vr a1, vi (p2 + 1), vi p3, vj q4, .second, vr a5, vi 1, vr c7, vi 0, vi sz8]) rfl) X16 hx (H 47 rfl) (v := 0) rfl) X16 hx (H 48 rfl) (L' := #[vr a1, vi (p2 + 1), vi 0, vj q4, .second, vr a5, vi 1, vr c7, vi 0, vi sz8]) rfl) X16 hx (H 49 rfl) (pc' := 0) rfl (by decide)) X16 hx (H 0 rfl) rfl) X16 hx (H 1 rfl) rfl rfl)
    obtain ⟨T301, X301, e301, go301⟩ := gF go300 X16 hx hZ hown (own_w hw 114 rfl) e16 iv_6.2.1 (H 2 rfl)
    by_cases hc5_302 : (p2 + 1) < cc
    ·have ihc5_302 := n_ltI (n_add (nr p2) nl1 (by omega)) (nr cc) hc5_302
     have go303 := (s_aloadN (s_icmpNo go301 X301 hx (H 3 rfl) (tlt hc5_302).2.1) X301 hx (H 4 rfl) rfl rfl)
     obtain ⟨T304, X304, e304, go304⟩ := gF go303 X301 hx hZ hown (own_w hw 48 rfl) e301 iv_3.2.1 (H 5 rfl)
     have go305 := (s_iloadN go304 X304 hx (H 6 rfl) rfl)
     obtain ⟨cl306, c306, Ar306, hin306, hat306, va306, ct306, R306⟩ := CC.at iv_13 iv_14 (j := (p2 + 1)) (n_add (nr p2) nl1 (by omega)) (nr cc) (by omega)
     obtain ⟨gc307, t307, u307, s307, f307, sz307, ph307, vv307, ⟨gt307, gu307, gs307, gf307⟩, c1_307, c2_307, c3_307, c4_307, c5_307, c6_307, c7_307, c8_307, c9_307, c10_307, c11_307, c12_307, c13_307⟩ := R306
     have go308 := (s_aloadN (s_astore (s_aaload go305 X304 hx hZ e304 Ar306 rfl hin306 hat306 (H 7 rfl)) X304 hx (H 8 rfl) rfl (L' := #[vr a1, vi (p2 + 1), vi 0, vj q4, .second, vr a5, vi 1, vr c306, vi 0, vi sz8]) rfl) X304 hx (H 9 rfl) rfl rfl)
     obtain ⟨T309, X309, e309, go309⟩ := gF go308 X304 hx hZ hown (own_w hw 51 rfl) e304 iv_4.2.1 (H 10 rfl)
     have go310 := (s_iadd (s_iconst (s_iloadN go309 X309 hx (H 11 rfl) rfl) X309 hx (H 12 rfl) (v := 1) rfl) X309 hx (H 13 rfl))
     obtain ⟨x311, go311⟩ := lJ go310 X309 hx hZ e309 iv_11 (n_in (n_add (n_add (nr p2) nl1 (by omega)) nl1 (by omega)) nl4 (by omega)) (H 14 rfl)
     have go312 := (s_lcmp (s_lloadN go311 X309 hx (H 15 rfl) rfl) X309 hx (H 16 rfl))
     by_cases hc26_313 : x311 < q4
     ·have go314 := (s_aload (s_ifYes (s_iload (s_istore (s_iconst (s_ifYes go312 X309 hx (H 17 rfl) (pc' := 33) rfl (by decide) ((if0 _ _).trans (tlt ((lw_lt _ _).mpr hc26_313)).1)) X309 hx (H 20 rfl) (v := 0) rfl) X309 hx (H 21 rfl) (L' := #[vr a1, vi (p2 + 1), vi 0, vj q4, .second, vr a5, vi 1, vr c306, vi 0, vi sz8]) rfl) X309 hx (H 22 rfl) rfl) X309 hx (H 23 rfl) (pc' := 50) rfl (by decide) ((if0 _ _).trans (teq (by decide : (0 : Int32) = 0)).1)) X309 hx (H 28 rfl) rfl rfl)
      obtain ⟨T315, X315, e315, go315⟩ := gF go314 X309 hx hZ hown (own_w hw 112 rfl) e309 c10_307.2.1 (H 29 rfl)
      have go317 := (s_iloadN (s_iload (s_istore go315 X315 hx (H 30 rfl) (L' := #[vr a1, vi (p2 + 1), vi 0, vj q4, .second, vr a5, vi 1, vr c306, vi 0, vi sz307]) rfl) X315 hx (H 31 rfl) rfl) X315 hx (H 32 rfl) rfl)
      have hd316 : (0 : Int32) < sz307 := n_lt nl0 (nr sz307) (by omega)
      have go318 := (s_aload (s_icmpNo go317 X315 hx (H 33 rfl) (tlt hd316).2.2.2) X315 hx (H 34 rfl) rfl rfl)
      obtain ⟨_, _, ⟨T319, L319, k319, n319⟩, -, X319, ⟨Lc319, hQ319, l319, y319, z319⟩, g319⟩ := c_s go318 (Jvm.LawKit.callS X315 hx (y := y_7) hown (mvT hZ (own_w hw 250 rfl)) (mvT hZ (own_w hw 251 rfl)) (mvT hZ (own_w hw 41 rfl)) (mvT hZ (own_w hw 252 rfl)) (by decide) (backOf (W := 0) (rm25 l Z a0 hw [] c306 vv307 oB bv h0 n0 Z0 c12_307 c9_307 iv_16 gc307 igb) hZ (own_w hw 252 rfl) (own_w hw 41 rfl) (by decide) (by decide)) (g := mkF m _ _ _) rfl (by rw [hml]; rfl) (argsL := [(.ref c306)]) (rest := []) (lenOf pd21_0 rfl) rfl (by show 2 * 0 + _ ≤ _; exact Nat.le_of_eq rfl) (H 35 rfl) (fun _ _ => ⟨rfl, e315, (by decide : 0 + 0 ≤ _), (by decide : 0 + 0 ≤ _)⟩))
      dsimp only [Pt.U, Pt.locs, Pt.cells, Pt.slots] at X319 l319 y319 z319 g319 hQ319
      subst l319 y319 z319
      obtain ⟨x2_319, w2_319, rfl, Nq319, Kn319, Pq319, F1_319, F3_319⟩ := hQ319
      have N319 := Fr.app N0 Nq319
      have KN320 := KN0.trans Kn319
      have Z320 := Nat.le_trans Z0 Pq319.1
      have go321 := cv g319
      have F322 := Pq319.fe iv_3 (nS rfl)
      have F323 := Pq319.ra iv_13 (nS rfl)
      have F324 := Pq319.fe iv_2 (nS rfl)
      have F325 := Pq319.fe iv_5 (nS rfl)
      have F326 := Pq319.lj iv_12
      have F327 := Pq319.li L1
      have F328 := Pq319.fe c3_307 (nS rfl)
      have F329 := Pq319.lj c4_307
      have F330 := Pq319.fe c5_307 (nS rfl)
      have F331 := Pq319.lj c6_307
      have F332 := Pq319.fe c10_307 (nS rfl)
      have F333 := Pq319.fe c13_307 (nS rfl)
      have go334 := (s_iload (s_aload (s_iload (s_iloadN (s_iloadN (s_aloadN go321 X319 hx (H 36 rfl) rfl rfl) X319 hx (H 37 rfl) rfl) X319 hx (H 38 rfl) rfl) X319 hx (H 39 rfl) rfl) X319 hx (H 40 rfl) rfl rfl) X319 hx (H 41 rfl) rfl)
      obtain ⟨cq335, qa335, qb335⟩ := (F324.1).cell
      obtain ⟨_, _, ⟨T335, L335, k335, n335⟩, -, X335, ⟨Lc335, hQ335, l335, y335, z335⟩, g335⟩ := c_b go334 (X319.privateBack hx (y := y_9) hown (mvT hZ (own_w hw 264 rfl)) (mvT hZ (own_w hw 265 rfl)) (own_selp (mvT hZ (own_w hw 40 rfl)) (mvP hZ (own_w hw 266 rfl)) (mvT hZ (own_w hw 265 rfl)) (by decide)) (Cond.privateMethod_at (mvP hZ (own_w hw 266 rfl) (args := #[]))) (mvT hZ (own_w hw 267 rfl)) (by decide) (backOf (W := 0) (rm27 l Z a0 hw [] a1 (p2 + 1) (0 : Int32) sz307 a5 oA vs oP c306 u307 s307 sz307 ph307 (T319.heap) n0 Z320 F322 F323 F324 F325 F326 F327 (by have q_ := (n_add (nr p2) nl1 (by omega)); omega) (by have q_ := nl0; have r_ := (nr sz307); omega) va306 F328 F329 F330 F331 F332 F333 ige gc307 gu307 gs307) hZ (own_w hw 267 rfl) (own_w hw 41 rfl) (by decide) (by decide)) (g := mkF m _ _ _) rfl (by rw [hml]; rfl) (Steps.refl _) (a := a1) qa335 qb335 (argsL := [(.int (p2 + 1)), (.int 0), (.int sz307), (.ref a5), (.int 1)]) (rest := []) (lenOf pd21_1 rfl) rfl (by show 2 * 0 + _ ≤ _; exact Nat.le_of_eq rfl) (H 42 rfl) (fun _ _ => ⟨rfl, rfl, (by decide : 0 + 0 ≤ _), (by decide : 0 + 0 ≤ _)⟩))
      dsimp only [Pt.U, Pt.locs, Pt.cells, Pt.slots] at X335 l335 y335 z335 g335 hQ335
      subst l335 y335 z335
      obtain ⟨rfl, Nq335, Kn335, Pq335⟩ := hQ335
      have N335 := Fr.app N319 Nq335
      have KN336 := KN320.trans Kn335
      have Z336 := Nat.le_trans Z320 Pq335.1
      have go337 := cv g335
      have U338 := Pq319.trans Pq335
      have F339 := U338.fe iv_6 (nS rfl)
      have go340 := (s_aloadN (s_iloadN (s_goto (s_istoreN (s_iconst (s_iinc (s_ifYes (s_iload go337 X335 hx (H 43 rfl) rfl) X335 hx (H 44 rfl) (pc' := 86) rfl (by decide) ((if0 _ _).trans (teq (by decide : (0 : Int32) = 0)).1)) X335 hx (H 46 rfl) rfl (L' := #[vr a1, vi ((p2 + 1) + 1), vi 0, vj q4, .second, vr a5, vi 1, vr c306, vi 0, vi sz307]) rfl) X335 hx (H 47 rfl) (v := 0) rfl) X335 hx (H 48 rfl) (L' := #[vr a1, vi ((p2 + 1) + 1), vi 0, vj q4, .second, vr a5, vi 1, vr c306, vi 0, vi sz307]) rfl) X335 hx (H 49 rfl) (pc' := 0) rfl (by decide)) X335 hx (H 0 rfl) rfl) X335 hx (H 1 rfl) rfl rfl)
      obtain ⟨T341, X341, e341, go341⟩ := gF go340 X335 hx hZ hown (own_w hw 114 rfl) rfl F339.2.1 (H 2 rfl)
      by_cases hc5_342 : ((p2 + 1) + 1) < cc
      ·have ihc5_342 := n_ltI (n_add (n_add (nr p2) nl1 (by omega)) nl1 (by omega)) (nr cc) hc5_342
       have F343 := Pq335.fe F322 (nS rfl)
       have go344 := (s_aloadN (s_icmpNo go341 X341 hx (H 3 rfl) (tlt hc5_342).2.1) X341 hx (H 4 rfl) rfl rfl)
       obtain ⟨T345, X345, e345, go345⟩ := gF go344 X341 hx hZ hown (own_w hw 48 rfl) e341 F343.2.1 (H 5 rfl)
       have F346 := Pq335.ra F323 (nS rfl)
       have go347 := (s_iloadN go345 X345 hx (H 6 rfl) rfl)
       have F349 := iv_14.pres U338 (hS rfl)
       obtain ⟨cl348, c348, Ar348, hin348, hat348, va348, ct348, R348⟩ := CC.at F346 F349 (j := ((p2 + 1) + 1)) (n_add (n_add (nr p2) nl1 (by omega)) nl1 (by omega)) (nr cc) (by omega)
       obtain ⟨gc350, t350, u350, s350, f350, sz350, ph350, vv350, ⟨gt350, gu350, gs350, gf350⟩, c1_350, c2_350, c3_350, c4_350, c5_350, c6_350, c7_350, c8_350, c9_350, c10_350, c11_350, c12_350, c13_350⟩ := R348
       have F351 := U338.fe iv_4 (nS rfl)
       have go352 := (s_aloadN (s_astore (s_aaload go347 X345 hx hZ e345 Ar348 rfl hin348 hat348 (H 7 rfl)) X345 hx (H 8 rfl) rfl (L' := #[vr a1, vi ((p2 + 1) + 1), vi 0, vj q4, .second, vr a5, vi 1, vr c348, vi 0, vi sz307]) rfl) X345 hx (H 9 rfl) rfl rfl)
       obtain ⟨T353, X353, e353, go353⟩ := gF go352 X345 hx hZ hown (own_w hw 51 rfl) e345 F351.2.1 (H 10 rfl)
       have F354 := U338.lj iv_11
       have go355 := (s_iadd (s_iconst (s_iloadN go353 X353 hx (H 11 rfl) rfl) X353 hx (H 12 rfl) (v := 1) rfl) X353 hx (H 13 rfl))
       obtain ⟨x356, go356⟩ := lJ go355 X353 hx hZ e353 F354 (n_in (n_add (n_add (n_add (nr p2) nl1 (by omega)) nl1 (by omega)) nl1 (by omega)) nl4 (by omega)) (H 14 rfl)
       have go357 := (s_lcmp (s_lloadN go356 X353 hx (H 15 rfl) rfl) X353 hx (H 16 rfl))
       by_cases hc26_358 : x356 < q4
       ·have go359 := (s_aload (s_ifYes (s_iload (s_istore (s_iconst (s_ifYes go357 X353 hx (H 17 rfl) (pc' := 33) rfl (by decide) ((if0 _ _).trans (tlt ((lw_lt _ _).mpr hc26_358)).1)) X353 hx (H 20 rfl) (v := 0) rfl) X353 hx (H 21 rfl) (L' := #[vr a1, vi ((p2 + 1) + 1), vi 0, vj q4, .second, vr a5, vi 1, vr c348, vi 0, vi sz307]) rfl) X353 hx (H 22 rfl) rfl) X353 hx (H 23 rfl) (pc' := 50) rfl (by decide) ((if0 _ _).trans (teq (by decide : (0 : Int32) = 0)).1)) X353 hx (H 28 rfl) rfl rfl)
        obtain ⟨T360, X360, e360, go360⟩ := gF go359 X353 hx hZ hown (own_w hw 112 rfl) e353 c10_350.2.1 (H 29 rfl)
        have go362 := (s_iloadN (s_iload (s_istore go360 X360 hx (H 30 rfl) (L' := #[vr a1, vi ((p2 + 1) + 1), vi 0, vj q4, .second, vr a5, vi 1, vr c348, vi 0, vi sz350]) rfl) X360 hx (H 31 rfl) rfl) X360 hx (H 32 rfl) rfl)
        have hd361 : (0 : Int32) < sz350 := n_lt nl0 (nr sz350) (by omega)
        have F363 := Pq335.fe F3_319 (nS rfl)
        have go364 := (s_aload (s_icmpNo go362 X360 hx (H 33 rfl) (tlt hd361).2.2.2) X360 hx (H 34 rfl) rfl rfl)
        obtain ⟨_, _, ⟨T365, L365, k365, n365⟩, -, X365, ⟨Lc365, hQ365, l365, y365, z365⟩, g365⟩ := c_s go364 (Jvm.LawKit.callS X360 hx (y := y_7) hown (mvT hZ (own_w hw 250 rfl)) (mvT hZ (own_w hw 251 rfl)) (mvT hZ (own_w hw 41 rfl)) (mvT hZ (own_w hw 252 rfl)) (by decide) (backOf (W := 0) (rm25 l Z a0 hw [] c348 vv350 oB w2_319 (T335.heap) n0 Z336 c12_350 c9_350 F363 gc350 igb) hZ (own_w hw 252 rfl) (own_w hw 41 rfl) (by decide) (by decide)) (g := mkF m _ _ _) rfl (by rw [hml]; rfl) (argsL := [(.ref c348)]) (rest := []) (lenOf pd21_0 rfl) rfl (by show 2 * 0 + _ ≤ _; exact Nat.le_of_eq rfl) (H 35 rfl) (fun _ _ => ⟨rfl, e360, (by decide : 0 + 0 ≤ _), (by decide : 0 + 0 ≤ _)⟩))
        dsimp only [Pt.U, Pt.locs, Pt.cells, Pt.slots] at X365 l365 y365 z365 g365 hQ365
        subst l365 y365 z365
        obtain ⟨x2_365, w2_365, rfl, Nq365, Kn365, Pq365, F1_365, F3_365⟩ := hQ365
        have N365 := Fr.app N335 Nq365
        have KN366 := KN336.trans Kn365
        have Z366 := Nat.le_trans Z336 Pq365.1
        have go367 := cv g365
        have F368 := Pq365.fe F343 (nS rfl)
        have F369 := Pq365.ra F346 (nS rfl)
        have U370 := Pq335.trans Pq365
        have F371 := U370.fe F324 (nS rfl)
        have F372 := U370.fe F325 (nS rfl)
        have F373 := U370.lj F326
        have F374 := U370.li F327
        have F375 := Pq365.fe c3_350 (nS rfl)
        have F376 := Pq365.lj c4_350
        have F377 := Pq365.fe c5_350 (nS rfl)
        have F378 := Pq365.lj c6_350
        have F379 := Pq365.fe c10_350 (nS rfl)
        have F380 := Pq365.fe c13_350 (nS rfl)
        have F381 := U370.ex F324.1
        have go382 := (s_iload (s_aload (s_iload (s_iloadN (s_iloadN (s_aloadN go367 X365 hx (H 36 rfl) rfl rfl) X365 hx (H 37 rfl) rfl) X365 hx (H 38 rfl) rfl) X365 hx (H 39 rfl) rfl) X365 hx (H 40 rfl) rfl rfl) X365 hx (H 41 rfl) rfl)
        obtain ⟨cq383, qa383, qb383⟩ := (F381).cell
        obtain ⟨_, _, ⟨T383, L383, k383, n383⟩, -, X383, ⟨Lc383, hQ383, l383, y383, z383⟩, g383⟩ := c_b go382 (X365.privateBack hx (y := y_9) hown (mvT hZ (own_w hw 264 rfl)) (mvT hZ (own_w hw 265 rfl)) (own_selp (mvT hZ (own_w hw 40 rfl)) (mvP hZ (own_w hw 266 rfl)) (mvT hZ (own_w hw 265 rfl)) (by decide)) (Cond.privateMethod_at (mvP hZ (own_w hw 266 rfl) (args := #[]))) (mvT hZ (own_w hw 267 rfl)) (by decide) (backOf (W := 0) (rm27 l Z a0 hw [] a1 ((p2 + 1) + 1) (0 : Int32) sz350 a5 oA vs oP c348 u350 s350 sz350 ph350 (T365.heap) n0 Z366 F368 F369 F371 F372 F373 F374 (by have q_ := (n_add (n_add (nr p2) nl1 (by omega)) nl1 (by omega)); omega) (by have q_ := nl0; have r_ := (nr sz350); omega) va348 F375 F376 F377 F378 F379 F380 ige gc350 gu350 gs350) hZ (own_w hw 267 rfl) (own_w hw 41 rfl) (by decide) (by decide)) (g := mkF m _ _ _) rfl (by rw [hml]; rfl) (Steps.refl _) (a := a1) qa383 qb383 (argsL := [(.int ((p2 + 1) + 1)), (.int 0), (.int sz350), (.ref a5), (.int 1)]) (rest := []) (lenOf pd21_1 rfl) rfl (by show 2 * 0 + _ ≤ _; exact Nat.le_of_eq rfl) (H 42 rfl) (fun _ _ => ⟨rfl, rfl, (by decide : 0 + 0 ≤ _), (by decide : 0 + 0 ≤ _)⟩))
        dsimp only [Pt.U, Pt.locs, Pt.cells, Pt.slots] at X383 l383 y383 z383 g383 hQ383
        subst l383 y383 z383
        obtain ⟨rfl, Nq383, Kn383, Pq383⟩ := hQ383
        have N383 := Fr.app N365 Nq383
        have KN384 := KN366.trans Kn383
        have Z384 := Nat.le_trans Z366 Pq383.1
        have go385 := cv g383
        have U386 := Pq365.trans Pq383
        have F387 := U386.fe F339 (nS rfl)
        have go388 := (s_aloadN (s_iloadN (s_goto (s_istoreN (s_iconst (s_iinc (s_ifYes (s_iload go385 X383 hx (H 43 rfl) rfl) X383 hx (H 44 rfl) (pc' := 86) rfl (by decide) ((if0 _ _).trans (teq (by decide : (0 : Int32) = 0)).1)) X383 hx (H 46 rfl) rfl (L' := #[vr a1, vi (((p2 + 1) + 1) + 1), vi 0, vj q4, .second, vr a5, vi 1, vr c348, vi 0, vi sz350]) rfl) X383 hx (H 47 rfl) (v := 0) rfl) X383 hx (H 48 rfl) (L' := #[vr a1, vi (((p2 + 1) + 1) + 1), vi 0, vj q4, .second, vr a5, vi 1, vr c348, vi 0, vi sz350]) rfl) X383 hx (H 49 rfl) (pc' := 0) rfl (by decide)) X383 hx (H 0 rfl) rfl) X383 hx (H 1 rfl) rfl rfl)
        obtain ⟨T389, X389, e389, go389⟩ := gF go388 X383 hx hZ hown (own_w hw 114 rfl) rfl F387.2.1 (H 2 rfl)
        have hd390 : ¬ ((((p2 + 1) + 1) + 1) < cc) := n_nlt (n_add (n_add (n_add (nr p2) nl1 (by omega)) nl1 (by omega)) nl1 (by omega)) (nr cc) (by omega)
        have go391 := (s_icmpYes go389 X389 hx (H 3 rfl) (pc' := 94) rfl (by decide) (flt hd390).2.1)
        refine own_f0 (Q := Q21 Z a0 a1 p2 p3 q4 a5 I h0 n0) Bd.notSynchronized hx Bd.returns pre0 X389 go391 (H 50 rfl) e389 (by decide) (by decide) ?_
        have U392 := Pq319.trans (Pq335.trans (Pq365.trans Pq383))
        have F393 := U392.fe iv_1 (nS rfl)
        have F394 := Pq383.fe F371 (nS rfl)
        have F395 := Pq383.fe F368 (nS rfl)
        have F396 := U386.fe F351 (nS rfl)
        have F397 := Pq383.fe F372 (nS rfl)
        have F398 := U392.fe iv_7 (nS rfl)
        have F399 := U392.fe iv_8 (nS rfl)
        have F400 := U392.fe iv_9 (nS rfl)
        have F401 := Pq383.ra F369 (nS rfl)
        have F402 := U392.fe iv_15 (nS rfl)
        have F403 := Pq383.fe F3_365 (nS rfl)
        have F404 := F349.pres U386 (hS rfl)
        have F405 := U386.lj F354
        have F406 := Pq383.lj F373
        exact ⟨rfl, N383, KN384, ⟨oB, oA, oF, oP, vs, cc, lf, sc, ss, w2_365, sg, ⟨iga, igb, igc, igd, ige⟩, F393, F394, F395, F396, F397, F387, F398, F399, F400, ⟨(by have q_ := (nr lf); omega), (by have q_ := (nr sc); omega), (by have q_ := (nr ss); omega)⟩, F405, F406, F401, (F404.top (Nat.le_refl _)), F402, F403, iv_17⟩⟩
       have go407 := (s_lloadN (s_aload (s_ifNo (s_iload (s_istore (s_goto (s_iconst (s_ifNo go357 X353 hx (H 17 rfl) ((if0 _ _).trans (flt (fun q => hc26_358 ((lw_lt _ _).mp q))).1)) X353 hx (H 18 rfl) (v := 1) rfl) X353 hx (H 19 rfl) (pc' := 34) rfl (by decide)) X353 hx (H 21 rfl) (L' := #[vr a1, vi ((p2 + 1) + 1), vi 0, vj q4, .second, vr a5, vi 1, vr c348, vi 1, vi sz307]) rfl) X353 hx (H 22 rfl) rfl) X353 hx (H 23 rfl) ((if0 _ _).trans (feq (by decide : ¬ ((1 : Int32) = 0))).1)) X353 hx (H 24 rfl) rfl rfl) X353 hx (H 25 rfl) rfl)
       obtain ⟨_, _, ⟨T408, L408, k408, n408⟩, -, X408, ⟨Lc408, hQ408, l408, y408, z408⟩, g408⟩ := c_s go407 (Jvm.LawKit.callS X353 hx (y := y_5) hown (mvT hZ (own_w hw 234 rfl)) (mvT hZ (own_w hw 235 rfl)) (mvT hZ (own_w hw 41 rfl)) (mvT hZ (own_w hw 236 rfl)) (by decide) (backOf (W := 0) (rm22 l Z a0 hw [] c348 q4 t350 sz350 (T335.heap) n0 Z336 c1_350 c2_350 c10_350 ⟨c11_350.1, c11_350.2.1⟩) hZ (own_w hw 236 rfl) (own_w hw 41 rfl) (by decide) (by decide)) (g := mkF m _ _ _) rfl (by rw [hml]; rfl) (argsL := [(.ref c348), (.long q4)]) (rest := []) (lenOf pd21_2 rfl) rfl (by show 2 * 0 + _ ≤ _; exact Nat.le_of_eq rfl) (H 26 rfl) (fun _ _ => ⟨rfl, e353, (by decide : 0 + 0 ≤ _), (by decide : 0 + 0 ≤ _)⟩))
       dsimp only [Pt.U, Pt.locs, Pt.cells, Pt.slots] at X408 l408 y408 z408 g408 hQ408
       subst l408 y408 z408
       obtain ⟨r_408, rfl, Nq408, eh408, hr_408⟩ := hQ408
       have N408 := Fr.app N335 Nq408
       have go409 := cr g408
       have go410 := (s_iloadN (s_iload (s_istore (s_goto go409 X408 hx (H 27 rfl) (pc' := 55) rfl (by decide)) X408 hx (H 30 rfl) (L' := #[vr a1, vi ((p2 + 1) + 1), vi 0, vj q4, .second, vr a5, vi 1, vr c348, vi 1, vi r_408]) rfl) X408 hx (H 31 rfl) rfl) X408 hx (H 32 rfl) rfl)
       by_cases hc60_411 : (0 : Int32) < r_408
       ·have ihc60_411 := n_ltI nl0 (nr r_408) hc60_411
        have F412 := Pq335.fe F3_319 (nS rfl)
        have go413 := (s_aload (s_icmpNo go410 X408 hx (H 33 rfl) (tlt hc60_411).2.2.2) X408 hx (H 34 rfl) rfl rfl)
        obtain ⟨_, _, ⟨T414, L414, k414, n414⟩, -, X414, ⟨Lc414, hQ414, l414, y414, z414⟩, g414⟩ := c_s go413 (Jvm.LawKit.callS X408 hx (y := y_7) hown (mvT hZ (own_w hw 250 rfl)) (mvT hZ (own_w hw 251 rfl)) (mvT hZ (own_w hw 41 rfl)) (mvT hZ (own_w hw 252 rfl)) (by decide) (backOf (W := 0) (rm25 l Z a0 hw [] c348 vv350 oB w2_319 (T335.heap) n0 Z336 c12_350 c9_350 F412 gc350 igb) hZ (own_w hw 252 rfl) (own_w hw 41 rfl) (by decide) (by decide)) (g := mkF m _ _ _) rfl (by rw [hml]; rfl) (argsL := [(.ref c348)]) (rest := []) (lenOf pd21_0 rfl) rfl (by show 2 * 0 + _ ≤ _; exact Nat.le_of_eq rfl) (H 35 rfl) (fun _ _ => ⟨rfl, eh408, (by decide : 0 + 0 ≤ _), (by decide : 0 + 0 ≤ _)⟩))
        dsimp only [Pt.U, Pt.locs, Pt.cells, Pt.slots] at X414 l414 y414 z414 g414 hQ414
        subst l414 y414 z414
        obtain ⟨x2_414, w2_414, rfl, Nq414, Kn414, Pq414, F1_414, F3_414⟩ := hQ414
        have N414 := Fr.app N408 Nq414
        have KN415 := KN336.trans Kn414
        have Z415 := Nat.le_trans Z336 Pq414.1
        have go416 := cv g414
        have F417 := Pq414.fe F343 (nS rfl)
        have F418 := Pq414.ra F346 (nS rfl)
        have U419 := Pq335.trans Pq414
        have F420 := U419.fe F324 (nS rfl)
        have F421 := U419.fe F325 (nS rfl)
        have F422 := U419.lj F326
        have F423 := U419.li F327
        have F424 := Pq414.fe c3_350 (nS rfl)
        have F425 := Pq414.lj c4_350
        have F426 := Pq414.fe c5_350 (nS rfl)
        have F427 := Pq414.lj c6_350
        have F428 := Pq414.fe c10_350 (nS rfl)
        have F429 := Pq414.fe c13_350 (nS rfl)
        have F430 := U419.ex F324.1
        have go431 := (s_iload (s_aload (s_iload (s_iloadN (s_iloadN (s_aloadN go416 X414 hx (H 36 rfl) rfl rfl) X414 hx (H 37 rfl) rfl) X414 hx (H 38 rfl) rfl) X414 hx (H 39 rfl) rfl) X414 hx (H 40 rfl) rfl rfl) X414 hx (H 41 rfl) rfl)
        obtain ⟨cq432, qa432, qb432⟩ := (F430).cell
        obtain ⟨_, _, ⟨T432, L432, k432, n432⟩, -, X432, ⟨Lc432, hQ432, l432, y432, z432⟩, g432⟩ := c_b go431 (X414.privateBack hx (y := y_9) hown (mvT hZ (own_w hw 264 rfl)) (mvT hZ (own_w hw 265 rfl)) (own_selp (mvT hZ (own_w hw 40 rfl)) (mvP hZ (own_w hw 266 rfl)) (mvT hZ (own_w hw 265 rfl)) (by decide)) (Cond.privateMethod_at (mvP hZ (own_w hw 266 rfl) (args := #[]))) (mvT hZ (own_w hw 267 rfl)) (by decide) (backOf (W := 0) (rm27 l Z a0 hw [] a1 ((p2 + 1) + 1) (0 : Int32) r_408 a5 oA vs oP c348 u350 s350 sz350 ph350 (T414.heap) n0 Z415 F417 F418 F420 F421 F422 F423 (by have q_ := (n_add (n_add (nr p2) nl1 (by omega)) nl1 (by omega)); omega) (by have q_ := nl0; have r_ := (nr r_408); omega) va348 F424 F425 F426 F427 F428 F429 ige gc350 gu350 gs350) hZ (own_w hw 267 rfl) (own_w hw 41 rfl) (by decide) (by decide)) (g := mkF m _ _ _) rfl (by rw [hml]; rfl) (Steps.refl _) (a := a1) qa432 qb432 (argsL := [(.int ((p2 + 1) + 1)), (.int 0), (.int r_408), (.ref a5), (.int 1)]) (rest := []) (lenOf pd21_1 rfl) rfl (by show 2 * 0 + _ ≤ _; exact Nat.le_of_eq rfl) (H 42 rfl) (fun _ _ => ⟨rfl, rfl, (by decide : 0 + 0 ≤ _), (by decide : 0 + 0 ≤ _)⟩))
        dsimp only [Pt.U, Pt.locs, Pt.cells, Pt.slots] at X432 l432 y432 z432 g432 hQ432
        subst l432 y432 z432
        obtain ⟨rfl, Nq432, Kn432, Pq432⟩ := hQ432
        have N432 := Fr.app N414 Nq432
        have KN433 := KN415.trans Kn432
        have Z433 := Nat.le_trans Z415 Pq432.1
        have go434 := cv g432
        have go435 := (s_ifNo (s_iload go434 X432 hx (H 43 rfl) rfl) X432 hx (H 44 rfl) ((if0 _ _).trans (feq (by decide : ¬ ((1 : Int32) = 0))).1))
        refine own_f0 (Q := Q21 Z a0 a1 p2 p3 q4 a5 I h0 n0) Bd.notSynchronized hx Bd.returns pre0 X432 go435 (H 45 rfl) rfl (by decide) (by decide) ?_
        have U436 := Pq319.trans (Pq335.trans (Pq414.trans Pq432))
        have F437 := U436.fe iv_1 (nS rfl)
        have F438 := Pq432.fe F420 (nS rfl)
        have F439 := Pq432.fe F417 (nS rfl)
        have U440 := Pq414.trans Pq432
        have F441 := U440.fe F351 (nS rfl)
        have F442 := Pq432.fe F421 (nS rfl)
        have F443 := U440.fe F339 (nS rfl)
        have F444 := U436.fe iv_7 (nS rfl)
        have F445 := U436.fe iv_8 (nS rfl)
        have F446 := U436.fe iv_9 (nS rfl)
        have F447 := Pq432.ra F418 (nS rfl)
        have F448 := U436.fe iv_15 (nS rfl)
        have F449 := Pq432.fe F3_414 (nS rfl)
        have F450 := F349.pres U440 (hS rfl)
        have F451 := U440.lj F354
        have F452 := Pq432.lj F422
        exact ⟨rfl, N432, KN433, ⟨oB, oA, oF, oP, vs, cc, lf, sc, ss, w2_414, sg, ⟨iga, igb, igc, igd, ige⟩, F437, F438, F439, F441, F442, F443, F444, F445, F446, ⟨(by have q_ := (nr lf); omega), (by have q_ := (nr sc); omega), (by have q_ := (nr ss); omega)⟩, F451, F452, F447, (F450.top (Nat.le_refl _)), F448, F449, iv_17⟩⟩
       have ihc60_411 := n_nltI nl0 (nr r_408) hc60_411
       have go453 := (s_ifNo (s_iload (s_icmpYes go410 X408 hx (H 33 rfl) (pc' := 80) rfl (by decide) (flt hc60_411).2.2.2) X408 hx (H 43 rfl) rfl) X408 hx (H 44 rfl) ((if0 _ _).trans (feq (by decide : ¬ ((1 : Int32) = 0))).1))
       refine own_f0 (Q := Q21 Z a0 a1 p2 p3 q4 a5 I h0 n0) Bd.notSynchronized hx Bd.returns pre0 X408 go453 (H 45 rfl) eh408 (by decide) (by decide) ?_
       have F454 := U338.fe iv_1 (nS rfl)
       have F455 := Pq335.fe F324 (nS rfl)
       have F456 := Pq335.fe F325 (nS rfl)
       have F457 := U338.fe iv_7 (nS rfl)
       have F458 := U338.fe iv_8 (nS rfl)
       have F459 := U338.fe iv_9 (nS rfl)
       have F460 := U338.fe iv_15 (nS rfl)
       have F461 := Pq335.fe F3_319 (nS rfl)
       have F462 := Pq335.lj F326
       exact ⟨rfl, N408, KN336, ⟨oB, oA, oF, oP, vs, cc, lf, sc, ss, w2_319, sg, ⟨iga, igb, igc, igd, ige⟩, F454, F455, F343, F351, F456, F339, F457, F458, F459, ⟨(by have q_ := (nr lf); omega), (by have q_ := (nr sc); omega), (by have q_ := (nr ss); omega)⟩, F354, F462, F346, (F349.top (Nat.le_refl _)), F460, F461, iv_17⟩⟩
      have ihc5_342 := n_nltI (n_add (n_add (nr p2) nl1 (by omega)) nl1 (by omega)) (nr cc) hc5_342
      have go463 := (s_icmpYes go341 X341 hx (H 3 rfl) (pc' := 94) rfl (by decide) (flt hc5_342).2.1)
      refine own_f0 (Q := Q21 Z a0 a1 p2 p3 q4 a5 I h0 n0) Bd.notSynchronized hx Bd.returns pre0 X341 go463 (H 50 rfl) e341 (by decide) (by decide) ?_
      have F464 := U338.fe iv_1 (nS rfl)
      have F465 := Pq335.fe F324 (nS rfl)
      have F466 := Pq335.fe F322 (nS rfl)
      have F467 := U338.fe iv_4 (nS rfl)
      have F468 := Pq335.fe F325 (nS rfl)
      have F469 := U338.fe iv_7 (nS rfl)
      have F470 := U338.fe iv_8 (nS rfl)
      have F471 := U338.fe iv_9 (nS rfl)
      have F472 := Pq335.ra F323 (nS rfl)
      have F473 := U338.fe iv_15 (nS rfl)
      have F474 := Pq335.fe F3_319 (nS rfl)
      have F475 := iv_14.pres U338 (hS rfl)
      have F476 := U338.lj iv_11
      have F477 := Pq335.lj F326
      exact ⟨rfl, N335, KN336, ⟨oB, oA, oF, oP, vs, cc, lf, sc, ss, w2_319, sg, ⟨iga, igb, igc, igd, ige⟩, F464, F465, F466, F467, F468, F339, F469, F470, F471, ⟨(by have q_ := (nr lf); omega), (by have q_ := (nr sc); omega), (by have q_ := (nr ss); omega)⟩, F476, F477, F472, (F475.top (Nat.le_refl _)), F473, F474, iv_17⟩⟩
     have go478 := (s_lloadN (s_aload (s_ifNo (s_iload (s_istore (s_goto (s_iconst (s_ifNo go312 X309 hx (H 17 rfl) ((if0 _ _).trans (flt (fun q => hc26_313 ((lw_lt _ _).mp q))).1)) X309 hx (H 18 rfl) (v := 1) rfl) X309 hx (H 19 rfl) (pc' := 34) rfl (by decide)) X309 hx (H 21 rfl) (L' := #[vr a1, vi (p2 + 1), vi 0, vj q4, .second, vr a5, vi 1, vr c306, vi 1, vi sz8]) rfl) X309 hx (H 22 rfl) rfl) X309 hx (H 23 rfl) ((if0 _ _).trans (feq (by decide : ¬ ((1 : Int32) = 0))).1)) X309 hx (H 24 rfl) rfl rfl) X309 hx (H 25 rfl) rfl)
     obtain ⟨_, _, ⟨T479, L479, k479, n479⟩, -, X479, ⟨Lc479, hQ479, l479, y479, z479⟩, g479⟩ := c_s go478 (Jvm.LawKit.callS X309 hx (y := y_5) hown (mvT hZ (own_w hw 234 rfl)) (mvT hZ (own_w hw 235 rfl)) (mvT hZ (own_w hw 41 rfl)) (mvT hZ (own_w hw 236 rfl)) (by decide) (backOf (W := 0) (rm22 l Z a0 hw [] c306 q4 t307 sz307 h0 n0 Z0 c1_307 c2_307 c10_307 ⟨c11_307.1, c11_307.2.1⟩) hZ (own_w hw 236 rfl) (own_w hw 41 rfl) (by decide) (by decide)) (g := mkF m _ _ _) rfl (by rw [hml]; rfl) (argsL := [(.ref c306), (.long q4)]) (rest := []) (lenOf pd21_2 rfl) rfl (by show 2 * 0 + _ ≤ _; exact Nat.le_of_eq rfl) (H 26 rfl) (fun _ _ => ⟨rfl, e309, (by decide : 0 + 0 ≤ _), (by decide : 0 + 0 ≤ _)⟩))
     dsimp only [Pt.U, Pt.locs, Pt.cells, Pt.slots] at X479 l479 y479 z479 g479 hQ479
     subst l479 y479 z479
     obtain ⟨r_479, rfl, Nq479, eh479, hr_479⟩ := hQ479
     have N479 := Fr.app N0 Nq479
     have go480 := cr g479
     have go481 := (s_iloadN (s_iload (s_istore (s_goto go480 X479 hx (H 27 rfl) (pc' := 55) rfl (by decide)) X479 hx (H 30 rfl) (L' := #[vr a1, vi (p2 + 1), vi 0, vj q4, .second, vr a5, vi 1, vr c306, vi 1, vi r_479]) rfl) X479 hx (H 31 rfl) rfl) X479 hx (H 32 rfl) rfl)
     by_cases hc60_482 : (0 : Int32) < r_479
     ·have ihc60_482 := n_ltI nl0 (nr r_479) hc60_482
      have go483 := (s_aload (s_icmpNo go481 X479 hx (H 33 rfl) (tlt hc60_482).2.2.2) X479 hx (H 34 rfl) rfl rfl)
      obtain ⟨_, _, ⟨T484, L484, k484, n484⟩, -, X484, ⟨Lc484, hQ484, l484, y484, z484⟩, g484⟩ := c_s go483 (Jvm.LawKit.callS X479 hx (y := y_7) hown (mvT hZ (own_w hw 250 rfl)) (mvT hZ (own_w hw 251 rfl)) (mvT hZ (own_w hw 41 rfl)) (mvT hZ (own_w hw 252 rfl)) (by decide) (backOf (W := 0) (rm25 l Z a0 hw [] c306 vv307 oB bv h0 n0 Z0 c12_307 c9_307 iv_16 gc307 igb) hZ (own_w hw 252 rfl) (own_w hw 41 rfl) (by decide) (by decide)) (g := mkF m _ _ _) rfl (by rw [hml]; rfl) (argsL := [(.ref c306)]) (rest := []) (lenOf pd21_0 rfl) rfl (by show 2 * 0 + _ ≤ _; exact Nat.le_of_eq rfl) (H 35 rfl) (fun _ _ => ⟨rfl, eh479, (by decide : 0 + 0 ≤ _), (by decide : 0 + 0 ≤ _)⟩))
      dsimp only [Pt.U, Pt.locs, Pt.cells, Pt.slots] at X484 l484 y484 z484 g484 hQ484
      subst l484 y484 z484
      obtain ⟨x2_484, w2_484, rfl, Nq484, Kn484, Pq484, F1_484, F3_484⟩ := hQ484
      have N484 := Fr.app N479 Nq484
      have KN485 := KN0.trans Kn484
      have Z485 := Nat.le_trans Z0 Pq484.1
      have go486 := cv g484
      have F487 := Pq484.fe iv_3 (nS rfl)
      have F488 := Pq484.ra iv_13 (nS rfl)
      have F489 := Pq484.fe iv_2 (nS rfl)
      have F490 := Pq484.fe iv_5 (nS rfl)
      have F491 := Pq484.lj iv_12
      have F492 := Pq484.li L1
      have F493 := Pq484.fe c3_307 (nS rfl)
      have F494 := Pq484.lj c4_307
      have F495 := Pq484.fe c5_307 (nS rfl)
      have F496 := Pq484.lj c6_307
      have F497 := Pq484.fe c10_307 (nS rfl)
      have F498 := Pq484.fe c13_307 (nS rfl)
      have go499 := (s_iload (s_aload (s_iload (s_iloadN (s_iloadN (s_aloadN go486 X484 hx (H 36 rfl) rfl rfl) X484 hx (H 37 rfl) rfl) X484 hx (H 38 rfl) rfl) X484 hx (H 39 rfl) rfl) X484 hx (H 40 rfl) rfl rfl) X484 hx (H 41 rfl) rfl)
      obtain ⟨cq500, qa500, qb500⟩ := (F489.1).cell
      obtain ⟨_, _, ⟨T500, L500, k500, n500⟩, -, X500, ⟨Lc500, hQ500, l500, y500, z500⟩, g500⟩ := c_b go499 (X484.privateBack hx (y := y_9) hown (mvT hZ (own_w hw 264 rfl)) (mvT hZ (own_w hw 265 rfl)) (own_selp (mvT hZ (own_w hw 40 rfl)) (mvP hZ (own_w hw 266 rfl)) (mvT hZ (own_w hw 265 rfl)) (by decide)) (Cond.privateMethod_at (mvP hZ (own_w hw 266 rfl) (args := #[]))) (mvT hZ (own_w hw 267 rfl)) (by decide) (backOf (W := 0) (rm27 l Z a0 hw [] a1 (p2 + 1) (0 : Int32) r_479 a5 oA vs oP c306 u307 s307 sz307 ph307 (T484.heap) n0 Z485 F487 F488 F489 F490 F491 F492 (by have q_ := (n_add (nr p2) nl1 (by omega)); omega) (by have q_ := nl0; have r_ := (nr r_479); omega) va306 F493 F494 F495 F496 F497 F498 ige gc307 gu307 gs307) hZ (own_w hw 267 rfl) (own_w hw 41 rfl) (by decide) (by decide)) (g := mkF m _ _ _) rfl (by rw [hml]; rfl) (Steps.refl _) (a := a1) qa500 qb500 (argsL := [(.int (p2 + 1)), (.int 0), (.int r_479), (.ref a5), (.int 1)]) (rest := []) (lenOf pd21_1 rfl) rfl (by show 2 * 0 + _ ≤ _; exact Nat.le_of_eq rfl) (H 42 rfl) (fun _ _ => ⟨rfl, rfl, (by decide : 0 + 0 ≤ _), (by decide : 0 + 0 ≤ _)⟩))
      dsimp only [Pt.U, Pt.locs, Pt.cells, Pt.slots] at X500 l500 y500 z500 g500 hQ500
      subst l500 y500 z500
      obtain ⟨rfl, Nq500, Kn500, Pq500⟩ := hQ500
      have N500 := Fr.app N484 Nq500
      have KN501 := KN485.trans Kn500
      have Z501 := Nat.le_trans Z485 Pq500.1
      have go502 := cv g500
      have go503 := (s_ifNo (s_iload go502 X500 hx (H 43 rfl) rfl) X500 hx (H 44 rfl) ((if0 _ _).trans (feq (by decide : ¬ ((1 : Int32) = 0))).1))
      refine own_f0 (Q := Q21 Z a0 a1 p2 p3 q4 a5 I h0 n0) Bd.notSynchronized hx Bd.returns pre0 X500 go503 (H 45 rfl) rfl (by decide) (by decide) ?_
      have U504 := Pq484.trans Pq500
      have F505 := U504.fe iv_1 (nS rfl)
      have F506 := Pq500.fe F489 (nS rfl)
      have F507 := Pq500.fe F487 (nS rfl)
      have F508 := U504.fe iv_4 (nS rfl)
      have F509 := Pq500.fe F490 (nS rfl)
      have F510 := U504.fe iv_6 (nS rfl)
      have F511 := U504.fe iv_7 (nS rfl)
      have F512 := U504.fe iv_8 (nS rfl)
      have F513 := U504.fe iv_9 (nS rfl)
      have F514 := Pq500.ra F488 (nS rfl)
      have F515 := U504.fe iv_15 (nS rfl)
      have F516 := Pq500.fe F3_484 (nS rfl)
      have F517 := iv_14.pres U504 (hS rfl)
      have F518 := U504.lj iv_11
      have F519 := Pq500.lj F491
      exact ⟨rfl, N500, KN501, ⟨oB, oA, oF, oP, vs, cc, lf, sc, ss, w2_484, sg, ⟨iga, igb, igc, igd, ige⟩, F505, F506, F507, F508, F509, F510, F511, F512, F513, ⟨(by have q_ := (nr lf); omega), (by have q_ := (nr sc); omega), (by have q_ := (nr ss); omega)⟩, F518, F519, F514, (F517.top (Nat.le_refl _)), F515, F516, iv_17⟩⟩
     have ihc60_482 := n_nltI nl0 (nr r_479) hc60_482
     have go520 := (s_ifNo (s_iload (s_icmpYes go481 X479 hx (H 33 rfl) (pc' := 80) rfl (by decide) (flt hc60_482).2.2.2) X479 hx (H 43 rfl) rfl) X479 hx (H 44 rfl) ((if0 _ _).trans (feq (by decide : ¬ ((1 : Int32) = 0))).1))
     refine own_f0 (Q := Q21 Z a0 a1 p2 p3 q4 a5 I h0 n0) Bd.notSynchronized hx Bd.returns pre0 X479 go520 (H 45 rfl) eh479 (by decide) (by decide) ?_
     exact ⟨rfl, N479, KN0, ⟨oB, oA, oF, oP, vs, cc, lf, sc, ss, bv, sg, ⟨iga, igb, igc, igd, ige⟩, iv_1, iv_2, iv_3, iv_4, iv_5, iv_6, iv_7, iv_8, iv_9, ⟨(by have q_ := (nr lf); omega), (by have q_ := (nr sc); omega), (by have q_ := (nr ss); omega)⟩, iv_11, iv_12, iv_13, (iv_14.top (Nat.le_refl _)), iv_15, iv_16, iv_17⟩⟩
    have ihc5_302 := n_nltI (n_add (nr p2) nl1 (by omega)) (nr cc) hc5_302
    have go521 := (s_icmpYes go301 X301 hx (H 3 rfl) (pc' := 94) rfl (by decide) (flt hc5_302).2.1)
    refine own_f0 (Q := Q21 Z a0 a1 p2 p3 q4 a5 I h0 n0) Bd.notSynchronized hx Bd.returns pre0 X301 go521 (H 50 rfl) e301 (by decide) (by decide) ?_
    exact ⟨rfl, N0, KN0, ⟨oB, oA, oF, oP, vs, cc, lf, sc, ss, bv, sg, ⟨iga, igb, igc, igd, ige⟩, iv_1, iv_2, iv_3, iv_4, iv_5, iv_6, iv_7, iv_8, iv_9, ⟨(by have q_ := (nr lf); omega), (by have q_ := (nr sc); omega), (by have q_ := (nr ss); omega)⟩, iv_11, iv_12, iv_13, (iv_14.top (Nat.le_refl _)), iv_15, iv_16, iv_17⟩⟩
   have go522 := (s_lloadN (s_aload (s_ifNo (s_iload (s_istore (s_goto (s_iconst (s_ifNo go13 X10 hx (H 17 rfl) ((if0 _ _).trans (flt (fun q => hc26_14 ((lw_lt _ _).mp q))).1)) X10 hx (H 18 rfl) (v := 1) rfl) X10 hx (H 19 rfl) (pc' := 34) rfl (by decide)) X10 hx (H 21 rfl) (L' := #[vr a1, vi p2, vi p3, vj q4, .second, vr a5, vi 1, vr c7, vi 1, .unset]) rfl) X10 hx (H 22 rfl) rfl) X10 hx (H 23 rfl) ((if0 _ _).trans (feq (by decide : ¬ ((1 : Int32) = 0))).1)) X10 hx (H 24 rfl) rfl rfl) X10 hx (H 25 rfl) rfl)
   obtain ⟨_, _, ⟨T523, L523, k523, n523⟩, -, X523, ⟨Lc523, hQ523, l523, y523, z523⟩, g523⟩ := c_s go522 (Jvm.LawKit.callS X10 hx (y := y_5) hown (mvT hZ (own_w hw 234 rfl)) (mvT hZ (own_w hw 235 rfl)) (mvT hZ (own_w hw 41 rfl)) (mvT hZ (own_w hw 236 rfl)) (by decide) (backOf (W := 0) (rm22 l Z a0 hw [] c7 q4 t8 sz8 h0 n0 Z0 c1_8 c2_8 c10_8 ⟨c11_8.1, c11_8.2.1⟩) hZ (own_w hw 236 rfl) (own_w hw 41 rfl) (by decide) (by decide)) (g := mkF m _ _ _) rfl (by rw [hml]; rfl) (argsL := [(.ref c7), (.long q4)]) (rest := []) (lenOf pd21_2 rfl) rfl (by show 2 * 0 + _ ≤ _; exact Nat.le_of_eq rfl) (H 26 rfl) (fun _ _ => ⟨rfl, e10, (by decide : 0 + 0 ≤ _), (by decide : 0 + 0 ≤ _)⟩))
   dsimp only [Pt.U, Pt.locs, Pt.cells, Pt.slots] at X523 l523 y523 z523 g523 hQ523
   subst l523 y523 z523
   obtain ⟨r_523, rfl, Nq523, eh523, hr_523⟩ := hQ523
   have N523 := Fr.app N0 Nq523
   have go524 := cr g523
   have go525 := (s_iloadN (s_iload (s_istore (s_goto go524 X523 hx (H 27 rfl) (pc' := 55) rfl (by decide)) X523 hx (H 30 rfl) (L' := #[vr a1, vi p2, vi p3, vj q4, .second, vr a5, vi 1, vr c7, vi 1, vi r_523]) rfl) X523 hx (H 31 rfl) rfl) X523 hx (H 32 rfl) rfl)
   by_cases hc60_526 : p3 < r_523
   ·have ihc60_526 := n_ltI (nr p3) (nr r_523) hc60_526
    have go527 := (s_aload (s_icmpNo go525 X523 hx (H 33 rfl) (tlt hc60_526).2.2.2) X523 hx (H 34 rfl) rfl rfl)
    obtain ⟨_, _, ⟨T528, L528, k528, n528⟩, -, X528, ⟨Lc528, hQ528, l528, y528, z528⟩, g528⟩ := c_s go527 (Jvm.LawKit.callS X523 hx (y := y_7) hown (mvT hZ (own_w hw 250 rfl)) (mvT hZ (own_w hw 251 rfl)) (mvT hZ (own_w hw 41 rfl)) (mvT hZ (own_w hw 252 rfl)) (by decide) (backOf (W := 0) (rm25 l Z a0 hw [] c7 vv8 oB bv h0 n0 Z0 c12_8 c9_8 iv_16 gc8 igb) hZ (own_w hw 252 rfl) (own_w hw 41 rfl) (by decide) (by decide)) (g := mkF m _ _ _) rfl (by rw [hml]; rfl) (argsL := [(.ref c7)]) (rest := []) (lenOf pd21_0 rfl) rfl (by show 2 * 0 + _ ≤ _; exact Nat.le_of_eq rfl) (H 35 rfl) (fun _ _ => ⟨rfl, eh523, (by decide : 0 + 0 ≤ _), (by decide : 0 + 0 ≤ _)⟩))
    dsimp only [Pt.U, Pt.locs, Pt.cells, Pt.slots] at X528 l528 y528 z528 g528 hQ528
    subst l528 y528 z528
    obtain ⟨x2_528, w2_528, rfl, Nq528, Kn528, Pq528, F1_528, F3_528⟩ := hQ528
    have N528 := Fr.app N523 Nq528
    have KN529 := KN0.trans Kn528
    have Z529 := Nat.le_trans Z0 Pq528.1
    have go530 := cv g528
    have F531 := Pq528.fe iv_3 (nS rfl)
    have F532 := Pq528.ra iv_13 (nS rfl)
    have F533 := Pq528.fe iv_2 (nS rfl)
    have F534 := Pq528.fe iv_5 (nS rfl)
    have F535 := Pq528.lj iv_12
    have F536 := Pq528.li L1
    have F537 := Pq528.fe c3_8 (nS rfl)
    have F538 := Pq528.lj c4_8
    have F539 := Pq528.fe c5_8 (nS rfl)
    have F540 := Pq528.lj c6_8
    have F541 := Pq528.fe c10_8 (nS rfl)
    have F542 := Pq528.fe c13_8 (nS rfl)
    have go543 := (s_iload (s_aload (s_iload (s_iloadN (s_iloadN (s_aloadN go530 X528 hx (H 36 rfl) rfl rfl) X528 hx (H 37 rfl) rfl) X528 hx (H 38 rfl) rfl) X528 hx (H 39 rfl) rfl) X528 hx (H 40 rfl) rfl rfl) X528 hx (H 41 rfl) rfl)
    obtain ⟨cq544, qa544, qb544⟩ := (F533.1).cell
    obtain ⟨_, _, ⟨T544, L544, k544, n544⟩, -, X544, ⟨Lc544, hQ544, l544, y544, z544⟩, g544⟩ := c_b go543 (X528.privateBack hx (y := y_9) hown (mvT hZ (own_w hw 264 rfl)) (mvT hZ (own_w hw 265 rfl)) (own_selp (mvT hZ (own_w hw 40 rfl)) (mvP hZ (own_w hw 266 rfl)) (mvT hZ (own_w hw 265 rfl)) (by decide)) (Cond.privateMethod_at (mvP hZ (own_w hw 266 rfl) (args := #[]))) (mvT hZ (own_w hw 267 rfl)) (by decide) (backOf (W := 0) (rm27 l Z a0 hw [] a1 p2 p3 r_523 a5 oA vs oP c7 u8 s8 sz8 ph8 (T528.heap) n0 Z529 F531 F532 F533 F534 F535 F536 (by have q_ := (nr p2); omega) (by have q_ := (nr p3); have r_ := (nr r_523); omega) va7 F537 F538 F539 F540 F541 F542 ige gc8 gu8 gs8) hZ (own_w hw 267 rfl) (own_w hw 41 rfl) (by decide) (by decide)) (g := mkF m _ _ _) rfl (by rw [hml]; rfl) (Steps.refl _) (a := a1) qa544 qb544 (argsL := [(.int p2), (.int p3), (.int r_523), (.ref a5), (.int 1)]) (rest := []) (lenOf pd21_1 rfl) rfl (by show 2 * 0 + _ ≤ _; exact Nat.le_of_eq rfl) (H 42 rfl) (fun _ _ => ⟨rfl, rfl, (by decide : 0 + 0 ≤ _), (by decide : 0 + 0 ≤ _)⟩))
    dsimp only [Pt.U, Pt.locs, Pt.cells, Pt.slots] at X544 l544 y544 z544 g544 hQ544
    subst l544 y544 z544
    obtain ⟨rfl, Nq544, Kn544, Pq544⟩ := hQ544
    have N544 := Fr.app N528 Nq544
    have KN545 := KN529.trans Kn544
    have Z545 := Nat.le_trans Z529 Pq544.1
    have go546 := cv g544
    have go547 := (s_ifNo (s_iload go546 X544 hx (H 43 rfl) rfl) X544 hx (H 44 rfl) ((if0 _ _).trans (feq (by decide : ¬ ((1 : Int32) = 0))).1))
    refine own_f0 (Q := Q21 Z a0 a1 p2 p3 q4 a5 I h0 n0) Bd.notSynchronized hx Bd.returns pre0 X544 go547 (H 45 rfl) rfl (by decide) (by decide) ?_
    have U548 := Pq528.trans Pq544
    have F549 := U548.fe iv_1 (nS rfl)
    have F550 := Pq544.fe F533 (nS rfl)
    have F551 := Pq544.fe F531 (nS rfl)
    have F552 := U548.fe iv_4 (nS rfl)
    have F553 := Pq544.fe F534 (nS rfl)
    have F554 := U548.fe iv_6 (nS rfl)
    have F555 := U548.fe iv_7 (nS rfl)
    have F556 := U548.fe iv_8 (nS rfl)
    have F557 := U548.fe iv_9 (nS rfl)
    have F558 := Pq544.ra F532 (nS rfl)
    have F559 := U548.fe iv_15 (nS rfl)
    have F560 := Pq544.fe F3_528 (nS rfl)
    have F561 := iv_14.pres U548 (hS rfl)
    have F562 := U548.lj iv_11
    have F563 := Pq544.lj F535
    exact ⟨rfl, N544, KN545, ⟨oB, oA, oF, oP, vs, cc, lf, sc, ss, w2_528, sg, ⟨iga, igb, igc, igd, ige⟩, F549, F550, F551, F552, F553, F554, F555, F556, F557, ⟨(by have q_ := (nr lf); omega), (by have q_ := (nr sc); omega), (by have q_ := (nr ss); omega)⟩, F562, F563, F558, (F561.top (Nat.le_refl _)), F559, F560, iv_17⟩⟩
   have ihc60_526 := n_nltI (nr p3) (nr r_523) hc60_526
   have go564 := (s_ifNo (s_iload (s_icmpYes go525 X523 hx (H 33 rfl) (pc' := 80) rfl (by decide) (flt hc60_526).2.2.2) X523 hx (H 43 rfl) rfl) X523 hx (H 44 rfl) ((if0 _ _).trans (feq (by decide : ¬ ((1 : Int32) = 0))).1))
   refine own_f0 (Q := Q21 Z a0 a1 p2 p3 q4 a5 I h0 n0) Bd.notSynchronized hx Bd.returns pre0 X523 go564 (H 45 rfl) eh523 (by decide) (by decide) ?_
   exact ⟨rfl, N523, KN0, ⟨oB, oA, oF, oP, vs, cc, lf, sc, ss, bv, sg, ⟨iga, igb, igc, igd, ige⟩, iv_1, iv_2, iv_3, iv_4, iv_5, iv_6, iv_7, iv_8, iv_9, ⟨(by have q_ := (nr lf); omega), (by have q_ := (nr sc); omega), (by have q_ := (nr ss); omega)⟩, iv_11, iv_12, iv_13, (iv_14.top (Nat.le_refl _)), iv_15, iv_16, iv_17⟩⟩
  have ihc5_3 := n_nltI (nr p2) (nr cc) hc5_3
  have go565 := (s_icmpYes go2 X2 hx (H 3 rfl) (pc' := 94) rfl (by decide) (flt hc5_3).2.1)
  refine own_f0 (Q := Q21 Z a0 a1 p2 p3 q4 a5 I h0 n0) Bd.notSynchronized hx Bd.returns pre0 X2 go565 (H 50 rfl) e2 (by decide) (by decide) ?_
  exact ⟨rfl, N0, KN0, ⟨oB, oA, oF, oP, vs, cc, lf, sc, ss, bv, sg, ⟨iga, igb, igc, igd, ige⟩, iv_1, iv_2, iv_3, iv_4, iv_5, iv_6, iv_7, iv_8, iv_9, ⟨(by have q_ := (nr lf); omega), (by have q_ := (nr sc); omega), (by have q_ := (nr ss); omega)⟩, iv_11, iv_12, iv_13, (iv_14.top (Nat.le_refl _)), iv_15, iv_16, iv_17⟩⟩

def dt19 : List (Nat × Instr × Nat) := [(0, .aload_n 0, 1), (1, .lload_n 1, 1), (2, .invokevirtual 98, 3), (5, .istore_n 3, 1), (6, .aload_n 0, 1), (7, .getfield 11, 3), (10, .iload_n 3, 1), (11, .aaload, 1), (12, .astore 4, 2), (14, .aload 4, 2), (16, .lload_n 1, 1), (17, .invokestatic 104, 3), (20, .iconst 1, 1), (21, .iadd, 1), (22, .istore 5, 2), (24, .aload_n 0, 1), (25, .iload_n 3, 1), (26, .putfield 118, 3), (29, .aload_n 0, 1), (30, .iload 5, 2), (32, .iconst 1, 1), (33, .isub, 1), (34, .putfield 121, 3), (37, .aload 4, 2), (39, .getfield 111, 3), (42, .iload 5, 2), (44, .iconst 1, 1), (45, .isub, 1), (46, .laload, 1), (47, .lload_n 1, 1), (48, .lcmp, 1), (49, .ifCond .ne 4, 3), (52, .return_, 1), (53, .aload 4, 2), (55, .getfield 36, 3), (58, .aload_n 0, 1), (59, .getfield 78, 3), (62, .if_icmp .ne 182, 3), (65, .new 16, 3), (68, .dup, 1), (69, .aload_n 0, 1), (70, .aload 4, 2), (72, .getfield 124, 3), (75, .invokespecial 86, 3), (78, .astore 6, 2), (80, .aload_n 0, 1), (81, .getfield 78, 3), (84, .iconst 2, 1), (85, .idiv, 1), (86, .istore 7, 2), (88, .aload_n 0, 1), (89, .aload 4, 2), (91, .iload 7, 2), (93, .aload 6, 2), (95, .iconst 0, 1), (96, .aload_n 0, 1), (97, .getfield 78, 3), (100, .iload 7, 2), (102, .isub, 1), (103, .invokevirtual 128, 3), (106, .aload 6, 2), (108, .aload_n 0, 1), (109, .getfield 78, 3), (112, .iload 7, 2), (114, .isub, 1), (115, .putfield 36, 3), (118, .aload 4, 2), (120, .iload 7, 2), (122, .putfield 36, 3), (125, .aload 4, 2), (127, .invokestatic 132, 3), (130, .aload_n 0, 1), (131, .iload_n 3, 1), (132, .iconst 1, 1), (133, .iadd, 1), (134, .aload 6, 2), (136, .invokevirtual 136, 3), (139, .aload 4, 2), (141, .getfield 45, 3), (144, .iconst 0, 1), (145, .aload 6, 2), (147, .getfield 45, 3), (150, .iconst 0, 1), (151, .aload_n 0, 1), (152, .getfield 25, 3), (155, .invokestatic 140, 3), (158, .aload_n 0, 1), (159, .getfield 29, 3), (162, .iload_n 3, 1), (163, .aload_n 0, 1), (164, .getfield 25, 3), (167, .imul, 1), (168, .aload_n 0, 1), (169, .getfield 29, 3), (172, .iload_n 3, 1), (173, .iconst 1, 1), (174, .iadd, 1), (175, .aload_n 0, 1), (176, .getfield 25, 3), (179, .imul, 1), (180, .aload_n 0, 1), (181, .getfield 25, 3), (184, .invokestatic 140, 3), (187, .aload 4, 2), (189, .iconst 1, 1), (190, .putfield 15, 3), (193, .aload 6, 2), (195, .iconst 1, 1), (196, .putfield 15, 3), (199, .aload 6, 2), (201, .getfield 124, 3), (204, .getfield 146, 3), (207, .bipush 32, 2), (209, .if_icmp .le 10, 3), (219, .iload 5, 2), (221, .iload 7, 2), (223, .if_icmp .le 21, 3), (226, .aload 6, 2), (228, .astore 4, 2), (230, .iload 5, 2), (232, .iload 7, 2), (234, .isub, 1), (235, .istore 5, 2), (237, .aload_n 0, 1), (238, .iload_n 3, 1), (239, .iconst 1, 1), (240, .iadd, 1), (241, .putfield 118, 3), (244, .aload_n 0, 1), (245, .iload 5, 2), (247, .putfield 121, 3), (250, .aload_n 0, 1), (251, .aload 4, 2), (253, .iload 5, 2), (255, .aload 4, 2), (257, .iload 5, 2), (259, .iconst 1, 1), (260, .iadd, 1), (261, .aload 4, 2), (263, .getfield 36, 3), (266, .iload 5, 2), (268, .isub, 1), (269, .invokevirtual 128, 3), (272, .aload 4, 2), (274, .dup, 1), (275, .getfield 36, 3), (278, .iconst 1, 1), (279, .iadd, 1), (280, .putfield 36, 3), (283, .aload 4, 2), (285, .getfield 111, 3), (288, .iload 5, 2), (290, .lload_n 1, 1), (291, .lastore, 1), (292, .aload 4, 2), (294, .getfield 152, 3), (297, .iload 5, 2), (299, .iconst 0, 1), (300, .iastore, 1), (301, .aload 4, 2), (303, .getfield 33, 3), (306, .iload 5, 2), (308, .iconst 1, 1), (309, .isub, 1), (310, .aload_n 0, 1), (311, .getfield 25, 3), (314, .imul, 1), (315, .aload 4, 2), (317, .getfield 33, 3), (320, .iload 5, 2), (322, .aload_n 0, 1), (323, .getfield 25, 3), (326, .imul, 1), (327, .aload_n 0, 1), (328, .getfield 25, 3), (331, .invokestatic 140, 3), (334, .return_, 1)]
theorem dk19 : ∀ x ∈ dt19, decode prog_99_method_13_code x.1 = .ok x.2 := by decide +kernel
theorem pn_19 : plainName "com/example/slackline/slackline/replay/Steps" = true := by first | (simp [plainName, overriddenIn]; done) | decide +kernel
theorem pd19_0 : parseMethodDescriptor "(J)I" = some ⟨[.long], some .int⟩ := by decide +kernel
theorem pd19_1 : parseMethodDescriptor "(Lcom/example/slackline/slackline/replay/Steps$Chunk;J)I" = some ⟨[(.object "com/example/slackline/slackline/replay/Steps$Chunk"), .long], some .int⟩ := by decide +kernel
theorem pd19_2 : parseMethodDescriptor "(Lcom/example/slackline/slackline/replay/Steps;Lcom/example/slackline/slackline/replay/Steps$Block;)V" = some ⟨[(.object "com/example/slackline/slackline/replay/Steps"), (.object "com/example/slackline/slackline/replay/Steps$Block")], none⟩ := by decide +kernel
theorem pd19_3 : parseMethodDescriptor "(Lcom/example/slackline/slackline/replay/Steps$Chunk;ILcom/example/slackline/slackline/replay/Steps$Chunk;II)V" = some ⟨[(.object "com/example/slackline/slackline/replay/Steps$Chunk"), .int, (.object "com/example/slackline/slackline/replay/Steps$Chunk"), .int, .int], none⟩ := by decide +kernel
theorem pd19_4 : parseMethodDescriptor "(Lcom/example/slackline/slackline/replay/Steps$Chunk;)V" = some ⟨[(.object "com/example/slackline/slackline/replay/Steps$Chunk")], none⟩ := by decide +kernel
theorem pd19_5 : parseMethodDescriptor "(ILcom/example/slackline/slackline/replay/Steps$Chunk;)V" = some ⟨[.int, (.object "com/example/slackline/slackline/replay/Steps$Chunk")], none⟩ := by decide +kernel
theorem ef_19 (m : MethodId) (x0 : Addr) (x1 : Int64) : entryFrame m #[(.ref x0), (.long x1)] 8 = mkF m 0 #[vr x0, vj x1, .second, .unset, .unset, .unset, .unset, .unset] [] := by first | (simp [entryFrame, mkF, argsToLocals, Value.category]; done) | rfl
def Q19 (Z : State) (a0 : Array Value) (a1 : Addr) (q2 : Int64) (I : Int) (h0 : Heap) (n0 : Nat) (v : Option Value) (h : Heap) (L : List Loc) : Prop := v = none ∧ Fr n0 L ∧ KN n0 h0 h ∧ Inv Z a0 h n0 a1 (I + 1)
set_option maxRecDepth 65536 in
set_option maxHeartbeats 40000000 in
theorem rm19 (l : Launch) (Z : State) (a0 : Array Value) (hw : ∀ d ∈ tables_1, d.before a0 Z = true) (ws : List Jvm.Cond) (a1 : Addr) (q2 : Int64) (I : Int) (h0 : Heap) (n0 : Nat) (Z0 : n0 ≤ h0.size) (iv : Inv Z a0 h0 n0 a1 I) (hI : I ≤ 5) :
    MetFree l y_15 (head1 (Jvm.Cond.code y_15 prog_99_method_13_code 8 none :: ws) ({ frames := 2, cells := 6, slots := 24, locals := 35 } : Room)) (fun a U => a = #[(.ref a1), (.long q2)] ∧ Z.Warmed39 U.vm ∧ U.heap = h0) (fun _ _ _ _ _ => True) (fun _ U o U' => ∃ v L, o = .returned v ∧ Q19 Z a0 a1 q2 I h0 n0 v U'.heap L ∧ FrameEnd U o U' L ({ frames := 2, cells := 6, slots := 24, locals := 35 } : Room).cells ({ frames := 2, cells := 6, slots := 24, locals := 35 } : Room).slots) := by
  refine MetFree.of_bodySF (plainFor_of_name pn_19) hisR ?_
  intro p e s m args below meth c s₁ Bd hml0 hP hK
  obtain ⟨rfl, hZ, hh⟩ := hP
  have hx := Bd.exec
  have hby := Bd.bytes
  have hml : c.maxLocals = 8 := hml0
  have hown : s.vm.findClass "com/example/slackline/slackline/replay/Steps" = some m.cls := findClass_of_methodNamed Bd.named
  have hnm := (name_of_methodNamed Bd.named Bd.method).1
  have X0 : Stand p l e ({ frames := 2, cells := 6, slots := 24, locals := 35 } : Room) s m #[(.ref a1), (.long q2)] below meth c s₁ [] 0 0 := Stand.of_body Bd
  have e0 : s₁.heap = h0 := by rw [← hh, Bd.state]; rfl
  have N0 := Fr.nil n0
  have H : ∀ (k : Nat) {i : Nat} {r : Instr × Nat}, dt19[k]? = some (i, r) → decode c.code i = .ok r := fun _ i r q => hb hby (dk19 (i, r) (List.mem_of_getElem? q))
  have KN0 : KN n0 h0 h0 := KN.refl n0 h0
  obtain ⟨oB, oA, oF, oP, vs, cc, lf, sc, ss, bv, sg, ⟨iga, igb, igc, igd, ige⟩, iv_1, iv_2, iv_3, iv_4, iv_5, iv_6, iv_7, iv_8, iv_9, iv_10, iv_11, iv_12, iv_13, iv_14, iv_15, iv_16, iv_17⟩ := iv
  have ivc := JJ.ccI iv_17
  obtain ⟨F0, hF0⟩ : ∃ F : JFrame, F = entryFrame m #[(.ref a1), (.long q2)] 8 := ⟨_, rfl⟩
  have pre0 : ∀ t, Steps p.tables e below (s₁.setTop F0) t → Steps p.tables e below (s₁.setTop (entryFrame m #[(.ref a1), (.long q2)] 8)) t := fun t k => hF0 ▸ k
  have go0 : Go p e below s₁ F0 s₁ (mkF m 0 #[vr a1, vj q2, .second, .unset, .unset, .unset, .unset, .unset] []) := fun t k => castTop (hF0.trans (ef_19 m a1 q2)) k
  have go1 := (s_lloadN (s_aloadN go0 X0 hx (H 0 rfl) rfl rfl) X0 hx (H 1 rfl) rfl)
  obtain ⟨cq2, qa2, qb2⟩ := (iv_1.1).cell
  obtain ⟨_, _, ⟨T2, L2, k2, n2⟩, -, X2, ⟨Lc2, hQ2, l2, y2, z2⟩, g2⟩ := c_b go1 (X0.privateBack hx (y := y_6) hown (mvT hZ (own_w hw 161 rfl)) (mvT hZ (own_w hw 162 rfl)) (own_selp (mvT hZ (own_w hw 40 rfl)) (mvP hZ (own_w hw 163 rfl)) (mvT hZ (own_w hw 162 rfl)) (by decide)) (Cond.privateMethod_at (mvP hZ (own_w hw 163 rfl) (args := #[]))) (mvT hZ (own_w hw 164 rfl)) (by decide) (backOf (W := 0) (rm13 l Z a0 hw [] a1 q2 lf cc oF h0 n0 Z0 iv_7 iv_6 iv_4 iv_11 iv_10.1 ivc iga) hZ (own_w hw 164 rfl) (own_w hw 41 rfl) (by decide) (by decide)) (g := mkF m _ _ _) rfl (by rw [hml]; rfl) (Steps.refl _) (a := a1) (by rw [e0]; exact qa2) qb2 (argsL := [(.long q2)]) (rest := []) (lenOf pd19_0 rfl) rfl (by show 2 * 0 + _ ≤ _; exact Nat.le_of_eq rfl) (H 2 rfl) (fun _ _ => ⟨rfl, e0, (by decide : 0 + 0 ≤ _), (by decide : 0 + 0 ≤ _)⟩))
  dsimp only [Pt.U, Pt.locs, Pt.cells, Pt.slots] at X2 l2 y2 z2 g2 hQ2
  subst l2 y2 z2
  obtain ⟨r_2, rfl, Nq2, Kn2, Pq2, hr_2, F1_2⟩ := hQ2
  have N2 := Fr.app N0 Nq2
  have KN3 := KN0.trans Kn2
  have Z3 := Nat.le_trans Z0 Pq2.1
  have go4 := cr g2
  have F5 := Pq2.fe iv_3 (nS rfl)
  have go6 := (s_aloadN (s_istoreN go4 X2 hx (H 3 rfl) (L' := #[vr a1, vj q2, .second, vi r_2, .unset, .unset, .unset, .unset]) rfl) X2 hx (H 4 rfl) rfl rfl)
  obtain ⟨T7, X7, e7, go7⟩ := gF go6 X2 hx hZ hown (own_w hw 48 rfl) rfl F5.2.1 (H 5 rfl)
  have F8 := Pq2.ra iv_13 (nS rfl)
  have go9 := (s_iloadN go7 X7 hx (H 6 rfl) rfl)
  have F11 := iv_14.pres Pq2 (hS rfl)
  obtain ⟨cl10, c10, Ar10, hin10, hat10, va10, ct10, R10⟩ := CC.at F8 F11 (j := r_2) (nr r_2) (nr cc) (by omega)
  obtain ⟨gc12, t12, u12, s12, f12, sz12, ph12, vv12, ⟨gt12, gu12, gs12, gf12⟩, c1_12, c2_12, c3_12, c4_12, c5_12, c6_12, c7_12, c8_12, c9_12, c10_12, c11_12, c12_12, c13_12⟩ := R10
  have go13 := (s_lloadN (s_aload (s_astore (s_aaload go9 X7 hx hZ e7 Ar10 rfl hin10 hat10 (H 7 rfl)) X7 hx (H 8 rfl) rfl (L' := #[vr a1, vj q2, .second, vi r_2, vr c10, .unset, .unset, .unset]) rfl) X7 hx (H 9 rfl) rfl rfl) X7 hx (H 10 rfl) rfl)
  obtain ⟨_, _, ⟨T14, L14, k14, n14⟩, -, X14, ⟨Lc14, hQ14, l14, y14, z14⟩, g14⟩ := c_s go13 (Jvm.LawKit.callS X7 hx (y := y_4) hown (mvT hZ (own_w hw 170 rfl)) (mvT hZ (own_w hw 171 rfl)) (mvT hZ (own_w hw 41 rfl)) (mvT hZ (own_w hw 172 rfl)) (by decide) (backOf (W := 0) (rm14 l Z a0 hw [] c10 q2 t12 sz12 (T2.heap) n0 Z3 c1_12 c2_12 c10_12 ⟨c11_12.1, c11_12.2.1⟩) hZ (own_w hw 172 rfl) (own_w hw 41 rfl) (by decide) (by decide)) (g := mkF m _ _ _) rfl (by rw [hml]; rfl) (argsL := [(.ref c10), (.long q2)]) (rest := []) (lenOf pd19_1 rfl) rfl (by show 2 * 0 + _ ≤ _; exact Nat.le_of_eq rfl) (H 11 rfl) (fun _ _ => ⟨rfl, e7, (by decide : 0 + 0 ≤ _), (by decide : 0 + 0 ≤ _)⟩))
  dsimp only [Pt.U, Pt.locs, Pt.cells, Pt.slots] at X14 l14 y14 z14 g14 hQ14
  subst l14 y14 z14
  obtain ⟨r_14, rfl, Nq14, eh14, hr_14⟩ := hQ14
  have N14 := Fr.app N2 Nq14
  have go15 := cr g14
  have F16 := Pq2.fe iv_8 (nS rfl)
  have go17 := (s_iloadN (s_aloadN (s_istore (s_iadd (s_iconst go15 X14 hx (H 12 rfl) (v := 1) rfl) X14 hx (H 13 rfl)) X14 hx (H 14 rfl) (L' := #[vr a1, vj q2, .second, vi r_2, vr c10, vi (r_14 + 1), .unset, .unset]) rfl) X14 hx (H 15 rfl) rfl rfl) X14 hx (H 16 rfl) rfl)
  obtain ⟨T18, h18, X18, e18, W18, go18⟩ := pF go17 X14 hx hZ hown (own_w hw 216 rfl) eh14 F16 (Or.inl (own_w hw 217 rfl)) pf_0 rfl rfl (H 17 rfl)
  have Fw18 := F16.self W18
  have P19 : Pres Z a0 _ _ _ := Pres.fIx (by decide) F16 W18 (by decide)
  have KN19 := KN3.trans (KN.wr W18 iga)
  have Z19 := Nat.le_trans Z3 P19.1
  have N18 := Fr.snoc X18 N14 iga
  have U20 := Pq2.trans P19
  have F21 := U20.fe iv_9 (nS rfl)
  have go22 := (s_isub (s_iconst (s_iload (s_aloadN go18 X18 hx (H 18 rfl) rfl rfl) X18 hx (H 19 rfl) rfl) X18 hx (H 20 rfl) (v := 1) rfl) X18 hx (H 21 rfl))
  obtain ⟨T23, h23, X23, e23, W23, go23⟩ := pF go22 X18 hx hZ hown (own_w hw 218 rfl) e18 F21 (Or.inl (own_w hw 219 rfl)) pf_0 rfl rfl (H 22 rfl)
  have Fw23 := F21.self W23
  have P24 : Pres Z a0 _ _ _ := Pres.fIx (by decide) F21 W23 (by decide)
  have KN24 := KN19.trans (KN.wr W23 iga)
  have Z24 := Nat.le_trans Z19 P24.1
  have N23 := Fr.snoc X23 N18 iga
  have U25 := P19.trans P24
  have F26 := U25.fe c1_12 (nS rfl)
  have go27 := (s_aload go23 X23 hx (H 23 rfl) rfl rfl)
  obtain ⟨T28, X28, e28, go28⟩ := gF go27 X23 hx hZ hown (own_w hw 173 rfl) e23 F26.2.1 (H 24 rfl)
  have F29 := U25.lj c2_12
  have go30 := (s_isub (s_iconst (s_iload go28 X28 hx (H 25 rfl) rfl) X28 hx (H 26 rfl) (v := 1) rfl) X28 hx (H 27 rfl))
  obtain ⟨x31, go31⟩ := lJ go30 X28 hx hZ e28 F29 (n_in (n_sub (n_add (nr r_14) nl1 (by omega)) nl1 (by omega)) nl4 (by omega)) (H 28 rfl)
  have go32 := (s_lcmp (s_lloadN go31 X28 hx (H 29 rfl) rfl) X28 hx (H 30 rfl))
  by_cases hc49_33 : x31 = q2
  ·have go34 := (s_ifNo go32 X28 hx (H 31 rfl) ((if0 _ _).trans (teq ((lw_eq _ _).mpr hc49_33)).2))
   refine own_f0 (Q := Q19 Z a0 a1 q2 I h0 n0) Bd.notSynchronized hx Bd.returns pre0 X28 go34 (H 32 rfl) e28 (by decide) (by decide) ?_
   have U35 := Pq2.trans (P19.trans P24)
   have F36 := U35.fe iv_1 (nS rfl)
   have F37 := U35.fe iv_2 (nS rfl)
   have F38 := U25.fe F5 (nS rfl)
   have F39 := U35.fe iv_4 (nS rfl)
   have F40 := U35.fe iv_5 (nS rfl)
   have F41 := U35.fe iv_6 (nS rfl)
   have F42 := U25.fe F1_2 (nS rfl)
   have F43 := P24.fe Fw18 (nS rfl)
   have F44 := U25.ra F8 (nS rfl)
   have F45 := U35.fe iv_15 (nS rfl)
   have F46 := U35.fe iv_16 (nS rfl)
   have F47 := F11.pres U25 (hS rfl)
   have F48 := U35.lj iv_11
   have F49 := U35.lj iv_12
   exact ⟨rfl, N23, KN24, ⟨oB, oA, oF, oP, vs, cc, r_2, r_2, ((r_14 + 1) - 1), bv, sg, ⟨iga, igb, igc, igd, ige⟩, F36, F37, F38, F39, F40, F41, F42, F43, Fw23, ⟨(by have q_ := (nr r_2); omega), (by have q_ := (nr r_2); omega), (by have q_ := (n_sub (n_add (nr r_14) nl1 (by omega)) nl1 (by omega)); omega)⟩, F48, F49, F44, (F47.top (Nat.le_refl _)), F45, F46, (JJ.stay iv_17)⟩⟩
  have F50 := U25.fe c10_12 (nS rfl)
  have go51 := (s_aload (s_ifYes go32 X28 hx (H 31 rfl) (pc' := 53) rfl (by decide) ((if0 _ _).trans (feq (fun q => hc49_33 ((lw_eq _ _).mp q))).2)) X28 hx (H 33 rfl) rfl rfl)
  obtain ⟨T52, X52, e52, go52⟩ := gF go51 X28 hx hZ hown (own_w hw 112 rfl) e28 F50.2.1 (H 34 rfl)
  have U53 := Pq2.trans (P19.trans P24)
  have F54 := U53.fe iv_1 (nS rfl)
  have go55 := (s_aloadN go52 X52 hx (H 35 rfl) rfl rfl)
  obtain ⟨T56, X56, e56, go56⟩ := gF go55 X52 hx hZ hown (own_w hw 69 rfl) e52 F54.2.1 (H 36 rfl)
  by_cases hc62_57 : sz12 = 4
  ·have ihc62_57 := n_eqI (nr sz12) nl4 hc62_57
   have go58 := (s_icmpNo go56 X56 hx (H 37 rfl) (teq hc62_57).2)
   obtain ⟨T59, h59, X59, e59, E59, A59, D59, -, go59⟩ := w_4 go58 (newO X56 hx hZ hown (own_w hw 46 rfl) (own_w hw 71 rfl) (own_w hw 72 rfl) e56 (g := mkF m _ _ _) rfl (H 38 rfl) (by decide) (by decide))
   obtain ⟨b59, gz59⟩ : ∃ z, z = h23.size := ⟨_, rfl⟩
   rw [← gz59] at A59 D59 go59
   have l60 := Nat.lt_of_lt_of_le F54.lt (Nat.le_of_eq gz59.symm)
   have F61 := U53.fe iv_15 (nS rfl)
   have l62 := Nat.lt_of_lt_of_le F61.lt (Nat.le_of_eq gz59.symm)
   have F63 := U25.ra F8 (nS rfl)
   have l64 := Nat.lt_of_lt_of_le F63.lt (Nat.le_of_eq gz59.symm)
   have F65 := U53.lj iv_11
   have l66 := Nat.lt_of_lt_of_le F65.lt (Nat.le_of_eq gz59.symm)
   have F67 := U53.lj iv_12
   have l68 := Nat.lt_of_lt_of_le F67.lt (Nat.le_of_eq gz59.symm)
   have l69 := Nat.lt_of_lt_of_le F26.lt (Nat.le_of_eq gz59.symm)
   have l70 := Nat.lt_of_lt_of_le F29.lt (Nat.le_of_eq gz59.symm)
   have F71 := U25.lj c4_12
   have l72 := Nat.lt_of_lt_of_le F71.lt (Nat.le_of_eq gz59.symm)
   have F73 := U25.lj c6_12
   have l74 := Nat.lt_of_lt_of_le F73.lt (Nat.le_of_eq gz59.symm)
   have F75 := U25.li c8_12
   have l76 := Nat.lt_of_lt_of_le F75.lt (Nat.le_of_eq gz59.symm)
   have g_b59 := Nat.le_trans Z24 (Nat.le_of_eq gz59.symm)
   have sz_b59 := Nat.le_trans KN24.1 (Nat.le_of_eq gz59.symm)
   have P77 : Pres Z a0 _ _ _ := Pres.ext E59
   have KN77 := KN24.trans (KN.ext E59 Z24)
   have Z77 := Nat.le_trans Z24 P77.1
   have F78 := feN A59 D59 (Or.inr (own_w hw 91 rfl)) pf_3 (own_w hw 71 rfl) (v := .null) rfl
   have F79 := feN A59 D59 (Or.inr (own_w hw 95 rfl)) pf_5 (own_w hw 71 rfl) (v := .null) rfl
   have F80 := feN A59 D59 (Or.inr (own_w hw 98 rfl)) pf_5 (own_w hw 71 rfl) (v := .null) rfl
   have F81 := feN A59 D59 (Or.inr (own_w hw 100 rfl)) pf_5 (own_w hw 71 rfl) (v := .null) rfl
   have F82 := feN A59 D59 (Or.inr (own_w hw 102 rfl)) pf_6 (own_w hw 71 rfl) (v := .null) rfl
   have F83 := feN A59 D59 (Or.inr (own_w hw 105 rfl)) pf_4 (own_w hw 71 rfl) (v := .null) rfl
   have F84 := feN A59 D59 (Or.inl (own_w hw 107 rfl)) pf_7 (own_w hw 71 rfl) (v := .null) rfl
   have F85 := feN A59 D59 (Or.inl (own_w hw 113 rfl)) pf_0 (own_w hw 71 rfl) (v := (.int 0)) rfl
   have F86 := feN A59 D59 (Or.inl (own_w hw 254 rfl)) pf_1 (own_w hw 71 rfl) (v := (.long 0)) rfl
   have F87 := feN A59 D59 (Or.inl (own_w hw 262 rfl)) pf_2 (own_w hw 71 rfl) (v := (.int 0)) rfl
   have U88 := P19.trans (P24.trans P77)
   have F89 := U88.fe c9_12 (nS rfl)
   have go90 := (s_aload (s_aloadN (s_dup go59 X59 hx (H 39 rfl) rfl) X59 hx (H 40 rfl) rfl rfl) X59 hx (H 41 rfl) rfl rfl)
   obtain ⟨T91, X91, e91, go91⟩ := gF go90 X59 hx hZ hown (own_w hw 249 rfl) e59 F89.2.1 (H 42 rfl)
   have U92 := Pq2.trans (P19.trans (P24.trans P77))
   have F93 := U92.fe iv_2 (nS rfl)
   have F94 := P77.fe F54 (nS rfl)
   have F95 := P77.fe F61 (nS rfl)
   have F96 := U92.fe iv_16 (nS rfl)
   obtain ⟨_, _, ⟨T97, L97, k97, n97⟩, -, X97, ⟨Lc97, hQ97, l97, y97, z97⟩, g97⟩ := c_b go91 (X91.specialBack hx (y := y_11) rfl hown (mvT hZ (own_w hw 87 rfl)) (mvT hZ (own_w hw 88 rfl)) (mvT hZ (own_w hw 89 rfl)) (by decide) (backOf (W := 1) (rm9 l Z a0 hw [] b59 a1 oB cc bv h59 n0 Z77 F78 F79 F80 F81 F82 F83 F84 F93 F94 F95 F96 g_b59 igb) hZ (own_w hw 89 rfl) (own_w hw 72 rfl) (by decide) (by decide)) (g := mkF m _ _ _) rfl (by rw [hml]; rfl) (Steps.refl _) (a := b59) (argsL := [(.ref a1), (.ref oB)]) (rest := [(.ref b59)]) (lenOf pd19_2 rfl) rfl (by show 2 * 0 + _ ≤ _; exact Nat.le_of_eq rfl) (H 43 rfl) (fun _ _ => ⟨rfl, e91, (by decide : 1 + 5 ≤ _), (by decide : 10 + 14 ≤ _)⟩))
   dsimp only [Pt.U, Pt.locs, Pt.cells, Pt.slots] at X97 l97 y97 z97 g97 hQ97
   subst l97 y97 z97
   obtain ⟨t_97, u_97, s_97, f_97, bv2_97, rfl, Nq97, Kn97, Pq97, F1_97, L1_97, F2_97, L2_97, F3_97, L3_97, F4_97, L4_97, F5_97, F6_97, F7_97, g1_97, g2_97, g3_97, g4_97⟩ := hQ97
   have N97 := Fr.app N23 Nq97
   have KN98 := KN77.trans Kn97
   have Z98 := Nat.le_trans Z77 Pq97.1
   have go99 := cv g97
   have F100 := Pq97.fe F94 (nS rfl)
   have go101 := (s_aloadN (s_astore go99 X97 hx (H 44 rfl) rfl (L' := #[vr a1, vj q2, .second, vi r_2, vr c10, vi (r_14 + 1), vr b59, .unset]) rfl) X97 hx (H 45 rfl) rfl rfl)
   obtain ⟨T102, X102, e102, go102⟩ := gF go101 X97 hx hZ hown (own_w hw 69 rfl) rfl F100.2.1 (H 46 rfl)
   have go103 := (s_aloadN (s_iconst (s_aload (s_iload (s_aload (s_aloadN (s_istore (s_idivE (s_iconst go102 X102 hx (H 47 rfl) (v := 2) rfl) X102 hx (H 48 rfl) (by decide) (v := 2) rfl) X102 hx (H 49 rfl) (L' := #[vr a1, vj q2, .second, vi r_2, vr c10, vi (r_14 + 1), vr b59, vi 2]) rfl) X102 hx (H 50 rfl) rfl rfl) X102 hx (H 51 rfl) rfl rfl) X102 hx (H 52 rfl) rfl) X102 hx (H 53 rfl) rfl rfl) X102 hx (H 54 rfl) (v := 0) rfl) X102 hx (H 55 rfl) rfl rfl)
   obtain ⟨T104, X104, e104, go104⟩ := gF go103 X102 hx hZ hown (own_w hw 69 rfl) e102 F100.2.1 (H 56 rfl)
   have F105 := Pq97.fe F93 (nS rfl)
   have U106 := P77.trans Pq97
   have F107 := U106.fe F26 (ninF (by decide) (ninA (Nat.ne_of_lt l69) (ninF (by decide) (ninF (by decide) (ninF (by decide) (ninF (by decide) (ninF (by decide) (ninF (by decide) (ninF (by decide) ninP0)))))))))
   have F108 := U106.lj F29
   have U109 := P19.trans (P24.trans (P77.trans Pq97))
   have F110 := U109.fe c7_12 (ninF (by decide) (ninF (by decide) (ninF (by decide) (ninF (by decide) (ninF (by decide) (ninF (by decide) (ninA (Nat.ne_of_lt l69) (ninF (by decide) (ninF (by decide) (ninF (by decide) (ninF (by decide) ninP0)))))))))))
   have F111 := U106.li F75
   have F112 := U109.fe c3_12 (ninF (by decide) (ninF (by decide) (ninF (by decide) (ninF (by decide) (ninA (Nat.ne_of_lt l69) (ninF (by decide) (ninF (by decide) (ninF (by decide) (ninF (by decide) (ninF (by decide) (ninF (by decide) ninP0)))))))))))
   have F113 := U106.lj F71
   have U114 := Pq2.trans (P19.trans (P24.trans (P77.trans Pq97)))
   have F115 := U114.ex iv_1.1
   have go116 := (s_isubE (s_iload go104 X104 hx (H 57 rfl) rfl) X104 hx (H 58 rfl) (v := 2) rfl)
   obtain ⟨cq117, qa117, qb117⟩ := (F115).cell
   obtain ⟨_, _, ⟨T117, L117, k117, n117⟩, -, X117, ⟨Lc117, hQ117, l117, y117, z117⟩, g117⟩ := c_b go116 (X104.privateBack hx (y := y_8) hown (mvT hZ (own_w hw 220 rfl)) (mvT hZ (own_w hw 221 rfl)) (own_selp (mvT hZ (own_w hw 40 rfl)) (mvP hZ (own_w hw 222 rfl)) (mvT hZ (own_w hw 221 rfl)) (by decide)) (Cond.privateMethod_at (mvP hZ (own_w hw 222 rfl) (args := #[]))) (mvT hZ (own_w hw 223 rfl)) (by decide) (backOf (W := 0) (rm20 l Z a0 hw [] a1 c10 (2 : Int32) b59 (0 : Int32) (2 : Int32) t12 f12 u12 t_97 f_97 u_97 (T97.heap) n0 Z98 F105 F107 F108 F110 F111 F112 F113 F1_97 L1_97 F4_97 L4_97 F2_97 L2_97 g1_97 g4_97 g2_97 (by decide)) hZ (own_w hw 223 rfl) (own_w hw 41 rfl) (by decide) (by decide)) (g := mkF m _ _ _) rfl (by rw [hml]; rfl) (Steps.refl _) (a := a1) (by rw [e104]; exact qa117) qb117 (argsL := [(.ref c10), (.int 2), (.ref b59), (.int 0), (.int 2)]) (rest := []) (lenOf pd19_3 rfl) rfl (by show 2 * 0 + _ ≤ _; exact Nat.le_of_eq rfl) (H 59 rfl) (fun _ _ => ⟨rfl, e104, (by decide : 6 + 0 ≤ _), (by decide : 24 + 0 ≤ _)⟩))
   dsimp only [Pt.U, Pt.locs, Pt.cells, Pt.slots] at X117 l117 y117 z117 g117 hQ117
   subst l117 y117 z117
   obtain ⟨rfl, Nq117, Kn117, Pq117⟩ := hQ117
   have N117 := Fr.app N97 Nq117
   have KN118 := KN98.trans Kn117
   have Z118 := Nat.le_trans Z98 Pq117.1
   have go119 := cv g117
   have F120 := Pq117.fe F100 (nS rfl)
   have go121 := (s_aloadN (s_aload go119 X117 hx (H 60 rfl) rfl rfl) X117 hx (H 61 rfl) rfl rfl)
   obtain ⟨T122, X122, e122, go122⟩ := gF go121 X117 hx hZ hown (own_w hw 69 rfl) rfl F120.2.1 (H 62 rfl)
   have U123 := Pq97.trans Pq117
   have F124 := U123.fe F85 (nS rfl)
   have U125 := P19.trans (P24.trans (P77.trans (Pq97.trans Pq117)))
   have F126 := F11.pres U125 (hd1 (Or.inl (by decide)) (hd1 (Or.inl (by decide)) (hd1 (Or.inl (by decide)) (hd1 (Or.inr sz_b59) (hd1 (Or.inr sz_b59) (hd1 (Or.inr sz_b59) (hd1 (Or.inr sz_b59) (hd1 (Or.inl (by decide)) (hd1 (Or.inr sz_b59) (hd1 (Or.inl (by decide)) (hd1 (Or.inl (by decide)) hd0)))))))))))
   have go127 := (s_isubE (s_iload go122 X122 hx (H 63 rfl) rfl) X122 hx (H 64 rfl) (v := 2) rfl)
   obtain ⟨T128, h128, X128, e128, W128, go128⟩ := pF go127 X122 hx hZ hown (own_w hw 112 rfl) e122 F124 (Or.inl (own_w hw 113 rfl)) pf_0 rfl rfl (H 65 rfl)
   have Fw128 := F124.self W128
   have P129 : Pres Z a0 _ _ _ := Pres.fIx (by decide) F124 W128 (by decide)
   have KN129 := KN118.trans (KN.wr W128 g_b59)
   have Z129 := Nat.le_trans Z118 P129.1
   have F130 : CC Z a0 h128 n0 h0.size oB vs cc sg := F126.upd P129 Fw128 (by have q_ := nl2; omega) (by omega)
   have N128 := Fr.snoc X128 N117 g_b59
   have U131 := P77.trans (Pq97.trans (Pq117.trans P129))
   have F132 := U131.fe F50 (ninF (by decide) (ninF (by decide) (ninF (by decide) (ninF (by decide) (ninF (by decide) (ninF (by decide) (ninF (by decide) (ninF (by decide) (ninF (by decide) (ninA (Nat.ne_of_lt l69) ninP0))))))))))
   have go133 := (s_iload (s_aload go128 X128 hx (H 66 rfl) rfl rfl) X128 hx (H 67 rfl) rfl)
   obtain ⟨T134, h134, X134, e134, W134, go134⟩ := pF go133 X128 hx hZ hown (own_w hw 112 rfl) e128 F132 (Or.inl (own_w hw 113 rfl)) pf_0 rfl rfl (H 68 rfl)
   have Fw134 := F132.self W134
   have P135 : Pres Z a0 _ _ _ := Pres.fIx (by decide) F132 W134 (by decide)
   have KN135 := KN129.trans (KN.wr W134 gc12)
   have Z135 := Nat.le_trans Z129 P135.1
   have F136 : CC Z a0 h134 n0 h0.size oB vs cc sg := F130.upd P135 Fw134 (by have q_ := nl2; omega) (by omega)
   have N134 := Fr.snoc X134 N128 gc12
   have U137 := P19.trans (P24.trans (P77.trans (Pq97.trans (Pq117.trans (P129.trans P135)))))
   have U138 := Pq117.trans (P129.trans P135)
   have F139 := U138.ex F6_97.1
   have ne140 := ne_exa Fw134.1 F139 (by decide)
   have F141 := U137.fe c12_12 (ninF (by decide) (ninF (by decide) (ninF (by decide) (ninF (by decide) (ninF (by decide) (ninF (by decide) (ninF (by decide) (ninF (by decide) (ninF (by decide) (ninF (by decide) (ninA ne140 (ninF (by decide) (ninF (by decide) ninP0)))))))))))))
   have U142 := Pq97.trans (Pq117.trans (P129.trans P135))
   have F143 := U142.fe F89 (ninF (by decide) (ninF (by decide) (ninF (by decide) (ninF (by decide) (ninF (by decide) (ninF (by decide) (ninA (Nat.ne_of_lt l69) (ninF (by decide) (ninF (by decide) (ninF (by decide) (ninF (by decide) ninP0)))))))))))
   have F144 := U138.fe F7_97 (nS rfl)
   have go145 := (s_aload go134 X134 hx (H 69 rfl) rfl rfl)
   obtain ⟨_, _, ⟨T146, L146, k146, n146⟩, -, X146, ⟨Lc146, hQ146, l146, y146, z146⟩, g146⟩ := c_s go145 (Jvm.LawKit.callS X134 hx (y := y_7) hown (mvT hZ (own_w hw 250 rfl)) (mvT hZ (own_w hw 251 rfl)) (mvT hZ (own_w hw 41 rfl)) (mvT hZ (own_w hw 252 rfl)) (by decide) (backOf (W := 0) (rm25 l Z a0 hw [] c10 vv12 oB bv2_97 h134 n0 Z135 F141 F143 F144 gc12 igb) hZ (own_w hw 252 rfl) (own_w hw 41 rfl) (by decide) (by decide)) (g := mkF m _ _ _) rfl (by rw [hml]; rfl) (argsL := [(.ref c10)]) (rest := []) (lenOf pd19_4 rfl) rfl (by show 2 * 0 + _ ≤ _; exact Nat.le_of_eq rfl) (H 70 rfl) (fun _ _ => ⟨rfl, e134, (by decide : 6 + 0 ≤ _), (by decide : 24 + 0 ≤ _)⟩))
   dsimp only [Pt.U, Pt.locs, Pt.cells, Pt.slots] at X146 l146 y146 z146 g146 hQ146
   subst l146 y146 z146
   obtain ⟨x2_146, w2_146, rfl, Nq146, Kn146, Pq146, F1_146, F3_146⟩ := hQ146
   have N146 := Fr.app N134 Nq146
   have KN147 := KN135.trans Kn146
   have Z147 := Nat.le_trans Z135 Pq146.1
   have go148 := cv g146
   have U149 := Pq2.trans (P19.trans (P24.trans (P77.trans (Pq97.trans (Pq117.trans (P129.trans (P135.trans Pq146)))))))
   have F150 := U149.fe iv_6 (nS rfl)
   have F151 := U149.fe iv_4 (nS rfl)
   have U152 := P77.trans (Pq97.trans (Pq117.trans (P129.trans (P135.trans Pq146))))
   have F153 := U152.lj F65
   have U154 := P19.trans (P24.trans (P77.trans (Pq97.trans (Pq117.trans (P129.trans (P135.trans Pq146))))))
   have F155 := U154.fe F5 (nS rfl)
   have F156 := U152.ra F63 (nS rfl)
   have F157 := U149.fe iv_5 (nS rfl)
   have F158 := U152.lj F67
   have U159 := Pq117.trans (P129.trans (P135.trans Pq146))
   have F160 := U159.fe F105 (nS rfl)
   have F161 := F136.pres Pq146 (hS rfl)
   have F162 := U159.fe F1_97 (nS rfl)
   have F163 := U159.lj L1_97
   have F164 := U159.ex F115
   have go165 := (s_aload (s_iadd (s_iconst (s_iloadN (s_aloadN go148 X146 hx (H 71 rfl) rfl rfl) X146 hx (H 72 rfl) rfl) X146 hx (H 73 rfl) (v := 1) rfl) X146 hx (H 74 rfl)) X146 hx (H 75 rfl) rfl rfl)
   obtain ⟨cq166, qa166, qb166⟩ := (F164).cell
   obtain ⟨_, _, ⟨T166, L166, k166, n166⟩, -, X166, ⟨Lc166, hQ166, l166, y166, z166⟩, g166⟩ := c_b go165 (X146.privateBack hx (y := y_12) hown (mvT hZ (own_w hw 256 rfl)) (mvT hZ (own_w hw 257 rfl)) (own_selp (mvT hZ (own_w hw 40 rfl)) (mvP hZ (own_w hw 258 rfl)) (mvT hZ (own_w hw 257 rfl)) (by decide)) (Cond.privateMethod_at (mvP hZ (own_w hw 258 rfl) (args := #[]))) (mvT hZ (own_w hw 259 rfl)) (by decide) (backOf (W := 0) (rm26 l Z a0 hw [] a1 (r_2 + 1) b59 oA vs oP oF cc t_97 (T146.heap) n0 Z147 F150 F151 F153 F155 F156 F157 F158 F160 (by have q_ := (n_add (nr r_2) nl1 (by omega)); have q2_ := JJ.two iv_17 hI; omega) (ge_cases (r := r_2) rfl (by have q2_ := JJ.two iv_17 hI; omega) (n_add (nr r_2) nl1 (by omega))) (own_hel F161 (nr r_2) (by omega) rfl rfl) F162 F163 iga igc ige igd) hZ (own_w hw 259 rfl) (own_w hw 41 rfl) (by decide) (by decide)) (g := mkF m _ _ _) rfl (by rw [hml]; rfl) (Steps.refl _) (a := a1) qa166 qb166 (argsL := [(.int (r_2 + 1)), (.ref b59)]) (rest := []) (lenOf pd19_5 rfl) rfl (by show 2 * 0 + _ ≤ _; exact Nat.le_of_eq rfl) (H 76 rfl) (fun _ _ => ⟨rfl, rfl, (by decide : 6 + 0 ≤ _), (by decide : 24 + 0 ≤ _)⟩))
   dsimp only [Pt.U, Pt.locs, Pt.cells, Pt.slots] at X166 l166 y166 z166 g166 hQ166
   subst l166 y166 z166
   obtain ⟨vs2_166, rfl, Nq166, Kn166, Pq166, F1_166, R1_166, hi_166⟩ := hQ166
   have N166 := Fr.app N146 Nq166
   have KN167 := KN147.trans Kn166
   have Z167 := Nat.le_trans Z147 Pq166.1
   have go168 := cv g166
   have U169 := P19.trans (P24.trans (P77.trans (Pq97.trans (Pq117.trans (P129.trans (P135.trans (Pq146.trans Pq166)))))))
   have F170 := U169.fe c5_12 (ninF (by decide) (ninF (by decide) (ninF (by decide) (ninF (by decide) (ninF (by decide) (ninA (Nat.ne_of_lt l69) (ninF (by decide) (ninF (by decide) (ninF (by decide) (ninF (by decide) (ninF (by decide) (ninF (by decide) (ninF (by decide) (ninF (by decide) (ninF (by decide) (ninF (by decide) (ninF (by decide) (ninF (by decide) ninP0))))))))))))))))))
   have go171 := (s_aload go168 X166 hx (H 77 rfl) rfl rfl)
   obtain ⟨T172, X172, e172, go172⟩ := gF go171 X166 hx hZ hown (own_w hw 260 rfl) rfl F170.2.1 (H 78 rfl)
   have U173 := Pq117.trans (P129.trans (P135.trans (Pq146.trans Pq166)))
   have F174 := U173.fe F3_97 (nS rfl)
   have go175 := (s_aload (s_iconst go172 X172 hx (H 79 rfl) (v := 0) rfl) X172 hx (H 80 rfl) rfl rfl)
   obtain ⟨T176, X176, e176, go176⟩ := gF go175 X172 hx hZ hown (own_w hw 260 rfl) e172 F174.2.1 (H 81 rfl)
   have F177 := Pq166.fe F160 (nS rfl)
   have go178 := (s_aloadN (s_iconst go176 X176 hx (H 82 rfl) (v := 0) rfl) X176 hx (H 83 rfl) rfl rfl)
   obtain ⟨T179, X179, e179, go179⟩ := gF go178 X176 hx hZ hown (own_w hw 57 rfl) e176 F177.2.1 (H 84 rfl)
   have U180 := P77.trans (Pq97.trans (Pq117.trans (P129.trans (P135.trans (Pq146.trans Pq166)))))
   have F181 := U180.lj F73
   have F182 := U173.lj L3_97
   have na183 := n_cp nl0 nl1 nl1 (by omega)
   have nb183 := n_cp nl0 nl1 nl1 (by omega)
   obtain ⟨T183, h183, L183, X183, e183, N183, Kc183, Vc183, st183⟩ := cpJ X179 hx hZ hown (own_w hw 224 rfl) (own_w hw 227 rfl) (own_w hw 225 rfl) (own_w hw 226 rfl) e179 F181 F182 na183.1 nb183.1 na183.2.1 na183.2.2 nb183.2.2 N166 g3_97 (pc := 155) (Ls := #[vr a1, vj q2, .second, vi r_2, vr c10, vi (r_14 + 1), vr b59, vi 2]) (rest := []) (by rw [hml]; rfl) (H 85 rfl) (by decide) (W := 0) (Nat.le_of_eq rfl) (by decide)
   have P184 : Pres Z a0 _ _ _ := Pres.cpJ F182 Kc183 Vc183
   have KN184 := KN167.trans (KN.kp Kc183 Z167 (own_all1 g3_97))
   have Z184 := Nat.le_trans Z167 P184.1
   have go185 := glm go179 st183
   have U186 := Pq166.trans P184
   have F187 := U186.fe F157 (nS rfl)
   have go188 := (s_aloadN go185 X183 hx (H 86 rfl) rfl rfl)
   obtain ⟨T189, X189, e189, go189⟩ := gF go188 X183 hx hZ hown (own_w hw 117 rfl) e183 F187.2.1 (H 87 rfl)
   have F190 := P184.fe F177 (nS rfl)
   have go191 := (s_aloadN (s_iloadN go189 X189 hx (H 88 rfl) rfl) X189 hx (H 89 rfl) rfl rfl)
   obtain ⟨T192, X192, e192, go192⟩ := gF go191 X189 hx hZ hown (own_w hw 57 rfl) e189 F190.2.1 (H 90 rfl)
   have go193 := (s_aloadN (s_imul go192 X192 hx (H 91 rfl)) X192 hx (H 92 rfl) rfl rfl)
   obtain ⟨T194, X194, e194, go194⟩ := gF go193 X192 hx hZ hown (own_w hw 117 rfl) e192 F187.2.1 (H 93 rfl)
   have go195 := (s_aloadN (s_iadd (s_iconst (s_iloadN go194 X194 hx (H 94 rfl) rfl) X194 hx (H 95 rfl) (v := 1) rfl) X194 hx (H 96 rfl)) X194 hx (H 97 rfl) rfl rfl)
   obtain ⟨T196, X196, e196, go196⟩ := gF go195 X194 hx hZ hown (own_w hw 57 rfl) e194 F190.2.1 (H 98 rfl)
   have go197 := (s_aloadN (s_imul go196 X196 hx (H 99 rfl)) X196 hx (H 100 rfl) rfl rfl)
   obtain ⟨T198, X198, e198, go198⟩ := gF go197 X196 hx hZ hown (own_w hw 57 rfl) e196 F190.2.1 (H 101 rfl)
   have F199 := U186.lj F158
   have na200 := n_cp (n_mul1 (nr r_2) nl1) nl1 nl4 (by omega)
   have nb200 := n_cp (n_mul1 (n_add (nr r_2) nl1 (by omega)) nl1) nl1 nl4 (by omega)
   obtain ⟨T200, h200, L200, X200, e200, N200, Kc200, Vc200, st200⟩ := cpJ X198 hx hZ hown (own_w hw 224 rfl) (own_w hw 227 rfl) (own_w hw 225 rfl) (own_w hw 226 rfl) e198 F199 F199 na200.1 nb200.1 na200.2.1 na200.2.2 nb200.2.2 N183 ige (pc := 184) (Ls := #[vr a1, vj q2, .second, vi r_2, vr c10, vi (r_14 + 1), vr b59, vi 2]) (rest := []) (by rw [hml]; rfl) (H 102 rfl) (by decide) (W := 0) (Nat.le_of_eq rfl) (by decide)
   have P201 : Pres Z a0 _ _ _ := Pres.cpJ F199 Kc200 Vc200
   have KN201 := KN184.trans (KN.kp Kc200 Z184 (own_all1 ige))
   have Z201 := Nat.le_trans Z184 P201.1
   have go202 := glm go198 st200
   have U203 := P19.trans (P24.trans (P77.trans (Pq97.trans (Pq117.trans (P129.trans (P135.trans (Pq146.trans (Pq166.trans (P184.trans P201)))))))))
   have F204 := U203.fe c13_12 (nS rfl)
   have go205 := (s_iconst (s_aload go202 X200 hx (H 103 rfl) rfl rfl) X200 hx (H 104 rfl) (v := 1) rfl)
   obtain ⟨T206, h206, X206, e206, W206, go206⟩ := w_2 go205 (putFN X200 hx hZ hown (own_w hw 261 rfl) Via.refl e200 F204.2.1 F204.1 (Or.inl (own_w hw 262 rfl)) (own_w hw 71 rfl) (ty := .boolean) (v' := (.int 1)) pf_2 rfl rfl (g := mkF m _ _ _) rfl rfl (H 105 rfl))
   have Fw206 := F204.self W206
   have P207 : Pres Z a0 _ _ _ := Pres.fIx (by decide) F204 W206 (by decide)
   have KN207 := KN201.trans (KN.wr W206 gc12)
   have Z207 := Nat.le_trans Z201 P207.1
   have N206 := Fr.snoc X206 N200 gc12
   have U208 := Pq97.trans (Pq117.trans (P129.trans (P135.trans (Pq146.trans (Pq166.trans (P184.trans (P201.trans P207)))))))
   have F209 := U208.fe F87 (ninF (by decide) (ninF (by decide) (ninF (by decide) (ninF (by decide) (ninF (by decide) (ninF (by decide) (ninF (by decide) (ninF (by decide) (ninF (by decide) (ninF (by decide) (ninF (by decide) (ninF (by decide) (ninF (by decide) (ninF (by decide) (ninF (by decide) (ninF (by decide) (ninA (Ne.symm (Nat.ne_of_lt l69)) ninP0)))))))))))))))))
   have go210 := (s_iconst (s_aload go206 X206 hx (H 106 rfl) rfl rfl) X206 hx (H 107 rfl) (v := 1) rfl)
   obtain ⟨T211, h211, X211, e211, W211, go211⟩ := w_2 go210 (putFN X206 hx hZ hown (own_w hw 261 rfl) Via.refl e206 F209.2.1 F209.1 (Or.inl (own_w hw 262 rfl)) (own_w hw 71 rfl) (ty := .boolean) (v' := (.int 1)) pf_2 rfl rfl (g := mkF m _ _ _) rfl rfl (H 108 rfl))
   have Fw211 := F209.self W211
   have P212 : Pres Z a0 _ _ _ := Pres.fIx (by decide) F209 W211 (by decide)
   have KN212 := KN207.trans (KN.wr W211 g_b59)
   have Z212 := Nat.le_trans Z207 P212.1
   have N211 := Fr.snoc X211 N206 g_b59
   have U213 := Pq117.trans (P129.trans (P135.trans (Pq146.trans (Pq166.trans (P184.trans (P201.trans (P207.trans P212)))))))
   have F214 := U213.fe F5_97 (nS rfl)
   have go215 := (s_aload go211 X211 hx (H 109 rfl) rfl rfl)
   obtain ⟨T216, X216, e216, go216⟩ := gF go215 X211 hx hZ hown (own_w hw 249 rfl) e211 F214.2.1 (H 110 rfl)
   have F217 := U213.fe F6_97 (nS rfl)
   obtain ⟨T218, X218, e218, go218⟩ := gF go216 X216 hx hZ hown (own_w hw 263 rfl) e216 F217.2.1 (H 111 rfl)
   have go220 := (s_bipush go218 X218 hx (H 112 rfl) (v := 32) rfl)
   have hd219 : ¬ ((32 : Int32) < (cc + 1)) := n_nlt nl32 (n_add (nr cc) nl1 (by omega)) (by omega)
   have go221 := (s_iload (s_iload (s_icmpYes go220 X218 hx (H 113 rfl) (pc' := 219) rfl (by decide) (flt hd219).2.2.2) X218 hx (H 114 rfl) rfl) X218 hx (H 115 rfl) rfl)
   by_cases hc223_222 : (2 : Int32) < (r_14 + 1)
   ·have ihc223_222 := n_ltI nl2 (n_add (nr r_14) nl1 (by omega)) hc223_222
    have U223 := P24.trans (P77.trans (Pq97.trans (Pq117.trans (P129.trans (P135.trans (Pq146.trans (Pq166.trans (P184.trans (P201.trans (P207.trans P212))))))))))
    have F224 := U223.fe Fw18 (nS rfl)
    have go225 := (s_iadd (s_iconst (s_iloadN (s_aloadN (s_istore (s_isub (s_iload (s_iload (s_astore (s_aload (s_icmpNo go221 X218 hx (H 116 rfl) (tlt hc223_222).2.2.2) X218 hx (H 117 rfl) rfl rfl) X218 hx (H 118 rfl) rfl (L' := #[vr a1, vj q2, .second, vi r_2, vr b59, vi (r_14 + 1), vr b59, vi 2]) rfl) X218 hx (H 119 rfl) rfl) X218 hx (H 120 rfl) rfl) X218 hx (H 121 rfl)) X218 hx (H 122 rfl) (L' := #[vr a1, vj q2, .second, vi r_2, vr b59, vi ((r_14 + 1) - 2), vr b59, vi 2]) rfl) X218 hx (H 123 rfl) rfl rfl) X218 hx (H 124 rfl) rfl) X218 hx (H 125 rfl) (v := 1) rfl) X218 hx (H 126 rfl))
    obtain ⟨T226, h226, X226, e226, W226, go226⟩ := pF go225 X218 hx hZ hown (own_w hw 216 rfl) e218 F224 (Or.inl (own_w hw 217 rfl)) pf_0 rfl rfl (H 127 rfl)
    have Fw226 := F224.self W226
    have P227 : Pres Z a0 _ _ _ := Pres.fIx (by decide) F224 W226 (by decide)
    have KN227 := KN212.trans (KN.wr W226 iga)
    have Z227 := Nat.le_trans Z212 P227.1
    have N226 := Fr.snoc X226 N211 iga
    have U228 := P77.trans (Pq97.trans (Pq117.trans (P129.trans (P135.trans (Pq146.trans (Pq166.trans (P184.trans (P201.trans (P207.trans (P212.trans P227))))))))))
    have F229 := U228.fe Fw23 (nS rfl)
    have go230 := (s_iload (s_aloadN go226 X226 hx (H 128 rfl) rfl rfl) X226 hx (H 129 rfl) rfl)
    obtain ⟨T231, h231, X231, e231, W231, go231⟩ := pF go230 X226 hx hZ hown (own_w hw 218 rfl) e226 F229 (Or.inl (own_w hw 219 rfl)) pf_0 rfl rfl (H 130 rfl)
    have Fw231 := F229.self W231
    have P232 : Pres Z a0 _ _ _ := Pres.fIx (by decide) F229 W231 (by decide)
    have KN232 := KN227.trans (KN.wr W231 iga)
    have Z232 := Nat.le_trans Z227 P232.1
    have N231 := Fr.snoc X231 N226 iga
    have U233 := P135.trans (Pq146.trans (Pq166.trans (P184.trans (P201.trans (P207.trans (P212.trans (P227.trans P232)))))))
    have F234 := U233.fe Fw128 (ninA (Ne.symm (Nat.ne_of_lt l69)) (ninF (by decide) (ninF (by decide) (ninF (by decide) (ninF (by decide) (ninF (by decide) (ninF (by decide) (ninF (by decide) (ninF (by decide) (ninF (by decide) ninP0))))))))))
    have go235 := (s_aload (s_iadd (s_iconst (s_iload (s_aload (s_iload (s_aload (s_aloadN go231 X231 hx (H 131 rfl) rfl rfl) X231 hx (H 132 rfl) rfl rfl) X231 hx (H 133 rfl) rfl) X231 hx (H 134 rfl) rfl rfl) X231 hx (H 135 rfl) rfl) X231 hx (H 136 rfl) (v := 1) rfl) X231 hx (H 137 rfl)) X231 hx (H 138 rfl) rfl rfl)
    obtain ⟨T236, X236, e236, go236⟩ := gF go235 X231 hx hZ hown (own_w hw 112 rfl) e231 F234.2.1 (H 139 rfl)
    have U237 := P201.trans (P207.trans (P212.trans (P227.trans P232)))
    have F238 := U237.fe F190 (nS rfl)
    have U239 := Pq166.trans (P184.trans (P201.trans (P207.trans (P212.trans (P227.trans P232)))))
    have F240 := U239.fe F162 (nS rfl)
    have F241 := U239.lj F163
    have U242 := Pq117.trans (P129.trans (P135.trans (Pq146.trans (Pq166.trans (P184.trans (P201.trans (P207.trans (P212.trans (P227.trans P232)))))))))
    have F243 := U242.fe F4_97 (nS rfl)
    have F244 := U242.li L4_97
    have F245 := U242.fe F2_97 (nS rfl)
    have F246 := U242.lj L2_97
    have F247 := U239.ex F164
    have go248 := (s_isub (s_iload go236 X236 hx (H 140 rfl) rfl) X236 hx (H 141 rfl))
    obtain ⟨cq249, qa249, qb249⟩ := (F247).cell
    obtain ⟨_, _, ⟨T249, L249, k249, n249⟩, -, X249, ⟨Lc249, hQ249, l249, y249, z249⟩, g249⟩ := c_b go248 (X236.privateBack hx (y := y_8) hown (mvT hZ (own_w hw 220 rfl)) (mvT hZ (own_w hw 221 rfl)) (own_selp (mvT hZ (own_w hw 40 rfl)) (mvP hZ (own_w hw 222 rfl)) (mvT hZ (own_w hw 221 rfl)) (by decide)) (Cond.privateMethod_at (mvP hZ (own_w hw 222 rfl) (args := #[]))) (mvT hZ (own_w hw 223 rfl)) (by decide) (backOf (W := 0) (rm20 l Z a0 hw [] a1 b59 ((r_14 + 1) - 2) b59 (((r_14 + 1) - 2) + 1) ((2 : Int32) - ((r_14 + 1) - 2)) t_97 f_97 u_97 t_97 f_97 u_97 h231 n0 Z232 F238 F240 F241 F243 F244 F245 F246 F240 F241 F243 F244 F245 F246 g1_97 g4_97 g2_97 (by have q_ := (n_sub (n_add (nr r_14) nl1 (by omega)) nl2 (by omega)); have q1_ := (n_add (n_sub (n_add (nr r_14) nl1 (by omega)) nl2 (by omega)) nl1 (by omega)); have q2_ := (n_sub nl2 (n_sub (n_add (nr r_14) nl1 (by omega)) nl2 (by omega)) (by omega)); omega)) hZ (own_w hw 223 rfl) (own_w hw 41 rfl) (by decide) (by decide)) (g := mkF m _ _ _) rfl (by rw [hml]; rfl) (Steps.refl _) (a := a1) (by rw [e236]; exact qa249) qb249 (argsL := [(.ref b59), (.int ((r_14 + 1) - 2)), (.ref b59), (.int (((r_14 + 1) - 2) + 1)), (.int ((2 : Int32) - ((r_14 + 1) - 2)))]) (rest := []) (lenOf pd19_3 rfl) rfl (by show 2 * 0 + _ ≤ _; exact Nat.le_of_eq rfl) (H 142 rfl) (fun _ _ => ⟨rfl, e236, (by decide : 6 + 0 ≤ _), (by decide : 24 + 0 ≤ _)⟩))
    dsimp only [Pt.U, Pt.locs, Pt.cells, Pt.slots] at X249 l249 y249 z249 g249 hQ249
    subst l249 y249 z249
    obtain ⟨rfl, Nq249, Kn249, Pq249⟩ := hQ249
    have N249 := Fr.app N231 Nq249
    have KN250 := KN232.trans Kn249
    have Z250 := Nat.le_trans Z232 Pq249.1
    have go251 := cv g249
    have F252 := Pq249.fe F234 (nS rfl)
    have go253 := (s_dup (s_aload go251 X249 hx (H 143 rfl) rfl rfl) X249 hx (H 144 rfl) rfl)
    obtain ⟨T254, X254, e254, go254⟩ := gF go253 X249 hx hZ hown (own_w hw 112 rfl) rfl F252.2.1 (H 145 rfl)
    have U255 := Pq166.trans (P184.trans (P201.trans (P207.trans (P212.trans (P227.trans (P232.trans Pq249))))))
    have F256 := F161.pres U255 (hS rfl)
    have go257 := (s_iaddE (s_iconst go254 X254 hx (H 146 rfl) (v := 1) rfl) X254 hx (H 147 rfl) (v := 3) rfl)
    obtain ⟨T258, h258, X258, e258, W258, go258⟩ := pF go257 X254 hx hZ hown (own_w hw 112 rfl) e254 F252 (Or.inl (own_w hw 113 rfl)) pf_0 rfl rfl (H 148 rfl)
    have Fw258 := F252.self W258
    have P259 : Pres Z a0 _ _ _ := Pres.fIx (by decide) F252 W258 (by decide)
    have KN259 := KN250.trans (KN.wr W258 g_b59)
    have Z259 := Nat.le_trans Z250 P259.1
    have F260 : CC Z a0 h258 n0 h0.size oB vs cc sg := F256.upd P259 Fw258 (by have q_ := nl3; omega) (by omega)
    have N258 := Fr.snoc X258 N249 g_b59
    have U261 := Pq249.trans P259
    have F262 := U261.fe F240 (nS rfl)
    have go263 := (s_aload go258 X258 hx (H 149 rfl) rfl rfl)
    obtain ⟨T264, X264, e264, go264⟩ := gF go263 X258 hx hZ hown (own_w hw 173 rfl) e258 F262.2.1 (H 150 rfl)
    have F265 := U261.lj F241
    have go266 := (s_lloadN (s_iload go264 X264 hx (H 151 rfl) rfl) X264 hx (H 152 rfl) rfl)
    obtain ⟨T267, h267, X267, e267, W267, go267⟩ := sJ go266 X264 hx hZ e264 F265 (n_in (n_sub (n_add (nr r_14) nl1 (by omega)) nl2 (by omega)) nl4 (by omega)) (H 153 rfl)
    have P268 : Pres Z a0 _ _ _ := Pres.wrJ F265 W267
    have KN268 := KN259.trans (KN.wr W267 g1_97)
    have Z268 := Nat.le_trans Z259 P268.1
    have N267 := Fr.snoc X267 N258 g1_97
    have U269 := Pq249.trans (P259.trans P268)
    have F270 := U269.fe F243 (nS rfl)
    have go271 := (s_aload go267 X267 hx (H 154 rfl) rfl rfl)
    obtain ⟨T272, X272, e272, go272⟩ := gF go271 X267 hx hZ hown (own_w hw 228 rfl) e267 F270.2.1 (H 155 rfl)
    have F273 := U269.li F244
    have go274 := (s_iconst (s_iload go272 X272 hx (H 156 rfl) rfl) X272 hx (H 157 rfl) (v := 0) rfl)
    obtain ⟨T275, h275, X275, e275, W275, go275⟩ := sI go274 X272 hx hZ e272 F273 (n_in (n_sub (n_add (nr r_14) nl1 (by omega)) nl2 (by omega)) nl4 (by omega)) (H 158 rfl)
    have P276 : Pres Z a0 _ _ _ := Pres.wrI F273 W275
    have KN276 := KN268.trans (KN.wr W275 g4_97)
    have Z276 := Nat.le_trans Z268 P276.1
    have N275 := Fr.snoc X275 N267 g4_97
    have U277 := Pq249.trans (P259.trans (P268.trans P276))
    have F278 := U277.fe F245 (nS rfl)
    have go279 := (s_aload go275 X275 hx (H 159 rfl) rfl rfl)
    obtain ⟨T280, X280, e280, go280⟩ := gF go279 X275 hx hZ hown (own_w hw 229 rfl) e275 F278.2.1 (H 160 rfl)
    have F281 := U277.fe F238 (nS rfl)
    have go282 := (s_aloadN (s_isub (s_iconst (s_iload go280 X280 hx (H 161 rfl) rfl) X280 hx (H 162 rfl) (v := 1) rfl) X280 hx (H 163 rfl)) X280 hx (H 164 rfl) rfl rfl)
    obtain ⟨T283, X283, e283, go283⟩ := gF go282 X280 hx hZ hown (own_w hw 57 rfl) e280 F281.2.1 (H 165 rfl)
    have go284 := (s_aload (s_imul go283 X283 hx (H 166 rfl)) X283 hx (H 167 rfl) rfl rfl)
    obtain ⟨T285, X285, e285, go285⟩ := gF go284 X283 hx hZ hown (own_w hw 229 rfl) e283 F278.2.1 (H 168 rfl)
    have go286 := (s_aloadN (s_iload go285 X285 hx (H 169 rfl) rfl) X285 hx (H 170 rfl) rfl rfl)
    obtain ⟨T287, X287, e287, go287⟩ := gF go286 X285 hx hZ hown (own_w hw 57 rfl) e285 F281.2.1 (H 171 rfl)
    have go288 := (s_aloadN (s_imul go287 X287 hx (H 172 rfl)) X287 hx (H 173 rfl) rfl rfl)
    obtain ⟨T289, X289, e289, go289⟩ := gF go288 X287 hx hZ hown (own_w hw 57 rfl) e287 F281.2.1 (H 174 rfl)
    have F290 := U277.lj F246
    have na291 := n_cp (n_mul1 (n_sub (n_sub (n_add (nr r_14) nl1 (by omega)) nl2 (by omega)) nl1 (by omega)) nl1) nl1 nl4 (by omega)
    have nb291 := n_cp (n_mul1 (n_sub (n_add (nr r_14) nl1 (by omega)) nl2 (by omega)) nl1) nl1 nl4 (by omega)
    obtain ⟨T291, h291, L291, X291, e291, N291, Kc291, Vc291, st291⟩ := cpJ X289 hx hZ hown (own_w hw 224 rfl) (own_w hw 227 rfl) (own_w hw 225 rfl) (own_w hw 226 rfl) e289 F290 F290 na291.1 nb291.1 na291.2.1 na291.2.2 nb291.2.2 N275 g2_97 (pc := 331) (Ls := #[vr a1, vj q2, .second, vi r_2, vr b59, vi ((r_14 + 1) - 2), vr b59, vi 2]) (rest := []) (by rw [hml]; rfl) (H 175 rfl) (by decide) (W := 0) (Nat.le_of_eq rfl) (by decide)
    have P292 : Pres Z a0 _ _ _ := Pres.cpJ F290 Kc291 Vc291
    have KN292 := KN276.trans (KN.kp Kc291 Z276 (own_all1 g2_97))
    have Z292 := Nat.le_trans Z276 P292.1
    have go293 := glm go289 st291
    refine own_f0 (Q := Q19 Z a0 a1 q2 I h0 n0) Bd.notSynchronized hx Bd.returns pre0 X291 go293 (H 176 rfl) e291 (by decide) (by decide) ?_
    have U294 := P268.trans (P276.trans P292)
    have F295 := F260.pres U294 (hS rfl)
    have U297 := Pq117.trans (P129.trans (P135.trans (Pq146.trans (Pq166.trans (P184.trans (P201.trans (P207.trans (P212.trans (P227.trans (P232.trans (Pq249.trans (P259.trans (P268.trans (P276.trans P292))))))))))))))
    have F298 := U297.fe F107 (nS rfl)
    have F299 := U297.fe F112 (nS rfl)
    have U300 := P184.trans (P201.trans (P207.trans (P212.trans (P227.trans (P232.trans (Pq249.trans (P259.trans (P268.trans (P276.trans P292)))))))))
    have F301 := U300.fe F170 (nS rfl)
    have F302 := U297.fe F110 (nS rfl)
    have U303 := Pq146.trans (Pq166.trans (P184.trans (P201.trans (P207.trans (P212.trans (P227.trans (P232.trans (Pq249.trans (P259.trans (P268.trans (P276.trans P292)))))))))))
    have F304 := U303.fe F143 (nS rfl)
    have F305 := U303.fe Fw134 (ninF (by decide) (ninF (by decide) (ninF (by decide) (ninF (by decide) (ninF (by decide) (ninF (by decide) (ninF (by decide) (ninF (by decide) (ninF (by decide) (ninA (Nat.ne_of_lt l69) ninP0))))))))))
    have U306 := Pq166.trans (P184.trans (P201.trans (P207.trans (P212.trans (P227.trans (P232.trans (Pq249.trans (P259.trans (P268.trans (P276.trans P292))))))))))
    have F307 := U306.fe F1_146 (nS rfl)
    have U308 := P212.trans (P227.trans (P232.trans (Pq249.trans (P259.trans (P268.trans (P276.trans P292))))))
    have F309 := U308.fe Fw206 (ninA (Nat.ne_of_lt l69) (ninF (by decide) (ninF (by decide) (ninF (by decide) ninP0))))
    have F310 := U297.lj F108
    have F311 := U297.lj F113
    have F312 := U300.lj F181
    have F313 := U297.li F111
    have F314 := U294.fe F262 (nS rfl)
    have F315 := P292.fe F278 (nS rfl)
    have F316 := U300.fe F174 (nS rfl)
    have U317 := P276.trans P292
    have F318 := U317.fe F270 (nS rfl)
    have U319 := P227.trans (P232.trans (Pq249.trans (P259.trans (P268.trans (P276.trans P292)))))
    have F320 := U319.fe F214 (nS rfl)
    have F321 := U294.fe Fw258 (nS rfl)
    have U322 := Pq97.trans (Pq117.trans (P129.trans (P135.trans (Pq146.trans (Pq166.trans (P184.trans (P201.trans (P207.trans (P212.trans (P227.trans (P232.trans (Pq249.trans (P259.trans (P268.trans (P276.trans P292)))))))))))))))
    have F323 := U322.fe F86 (ninF (by decide) (ninF (by decide) (ninF (by decide) (ninF (by decide) (ninF (by decide) (ninF (by decide) (ninF (by decide) (ninF (by decide) (ninA (Ne.symm (Nat.ne_of_lt l62)) (ninF (by decide) (ninF (by decide) (ninA (Ne.symm (Nat.ne_of_lt l69)) (ninA (Ne.symm (Nat.ne_of_lt l62)) (ninF (by decide) (ninF (by decide) (ninF (by decide) (ninF (by decide) (ninF (by decide) (ninF (by decide) (ninF (by decide) (ninF (by decide) ninP0)))))))))))))))))))))
    have F324 := U319.fe Fw211 (nS rfl)
    have F325 := U294.lj F265
    have F326 := P292.lj F290
    have F327 := U300.lj F182
    have F328 := U317.li F273
    obtain ⟨sg296, CC296, JJ296⟩ := CC.ins (cA := c10) (cB := b59) (top' := h291.size) F295 iv_17 hI (by omega) va10 (ge_cases (r := r_2) rfl (by have q2_ := JJ.two iv_17 hI; omega) (n_add (nr r_2) nl1 (by omega))) (n_add (nr r_2) nl1 (by omega)) hi_166 (⟨gc12, t12, u12, s12, f12, (2 : Int32), (1 : Int32), x2_146, ⟨gt12, gu12, gs12, gf12⟩, F298, F310, F299, F311, F301, F312, F302, F313, F304, F305, (by decide), F307, F309⟩) (⟨g_b59, t_97, u_97, s_97, f_97, (3 : Int32), (1 : Int32), (0 : Int64), ⟨g1_97, g2_97, g3_97, g4_97⟩, F314, F325, F315, F326, F316, F327, F318, F328, F320, F321, (by decide), F323, F324⟩) (Nat.le_refl _)
    have U329 := P129.trans (P135.trans (Pq146.trans (Pq166.trans (P184.trans (P201.trans (P207.trans (P212.trans (P227.trans (P232.trans (Pq249.trans (P259.trans (P268.trans (P276.trans P292)))))))))))))
    have F330 := U329.fe F120 (nS rfl)
    have F331 := P292.fe F281 (nS rfl)
    have F332 := U306.fe F155 (nS rfl)
    have F333 := U306.fe F151 (nS rfl)
    have U334 := P201.trans (P207.trans (P212.trans (P227.trans (P232.trans (Pq249.trans (P259.trans (P268.trans (P276.trans P292))))))))
    have F335 := U334.fe F187 (nS rfl)
    have F336 := U300.fe F1_166 (nS rfl)
    have U337 := P19.trans (P24.trans (P77.trans (Pq97.trans (Pq117.trans (P129.trans (P135.trans (Pq146.trans (Pq166.trans (P184.trans (P201.trans (P207.trans (P212.trans (P227.trans (P232.trans (Pq249.trans (P259.trans (P268.trans (P276.trans P292))))))))))))))))))
    have F338 := U337.fe F1_2 (nS rfl)
    have U339 := P232.trans (Pq249.trans (P259.trans (P268.trans (P276.trans P292))))
    have F340 := U339.fe Fw226 (nS rfl)
    have U341 := Pq249.trans (P259.trans (P268.trans (P276.trans P292)))
    have F342 := U341.fe Fw231 (nS rfl)
    have F343 := U300.ra R1_166 (nS rfl)
    have F344 := U319.fe F217 (nS rfl)
    have F345 := U306.fe F3_146 (nS rfl)
    have F346 := U306.lj F153
    have F347 := U334.lj F199
    exact ⟨rfl, N291, KN292, ⟨oB, oA, oF, oP, vs2_166, (cc + 1), r_2, (r_2 + 1), ((r_14 + 1) - 2), w2_146, sg296, ⟨iga, igb, igc, igd, ige⟩, F330, F331, F332, F333, F335, F336, F338, F340, F342, ⟨(by have q_ := (nr r_2); omega), (by have q_ := (n_add (nr r_2) nl1 (by omega)); omega), (by have q_ := (n_sub (n_add (nr r_14) nl1 (by omega)) nl2 (by omega)); omega)⟩, F346, F347, F343, CC296, F344, F345, JJ296⟩⟩
   have ihc223_222 := n_nltI nl2 (n_add (nr r_14) nl1 (by omega)) hc223_222
   have U348 := P77.trans (Pq97.trans (Pq117.trans (P129.trans (P135.trans (Pq146.trans (Pq166.trans (P184.trans (P201.trans (P207.trans P212)))))))))
   have F349 := U348.fe Fw23 (nS rfl)
   have go350 := (s_iload (s_aloadN (s_icmpYes go221 X218 hx (H 116 rfl) (pc' := 244) rfl (by decide) (flt hc223_222).2.2.2) X218 hx (H 128 rfl) rfl rfl) X218 hx (H 129 rfl) rfl)
   obtain ⟨T351, h351, X351, e351, W351, go351⟩ := pF go350 X218 hx hZ hown (own_w hw 218 rfl) e218 F349 (Or.inl (own_w hw 219 rfl)) pf_0 rfl rfl (H 130 rfl)
   have Fw351 := F349.self W351
   have P352 : Pres Z a0 _ _ _ := Pres.fIx (by decide) F349 W351 (by decide)
   have KN352 := KN212.trans (KN.wr W351 iga)
   have Z352 := Nat.le_trans Z212 P352.1
   have N351 := Fr.snoc X351 N211 iga
   have U353 := Pq146.trans (Pq166.trans (P184.trans (P201.trans (P207.trans (P212.trans P352)))))
   have F354 := U353.fe Fw134 (nS rfl)
   have go355 := (s_aload (s_iadd (s_iconst (s_iload (s_aload (s_iload (s_aload (s_aloadN go351 X351 hx (H 131 rfl) rfl rfl) X351 hx (H 132 rfl) rfl rfl) X351 hx (H 133 rfl) rfl) X351 hx (H 134 rfl) rfl rfl) X351 hx (H 135 rfl) rfl) X351 hx (H 136 rfl) (v := 1) rfl) X351 hx (H 137 rfl)) X351 hx (H 138 rfl) rfl rfl)
   obtain ⟨T356, X356, e356, go356⟩ := gF go355 X351 hx hZ hown (own_w hw 112 rfl) e351 F354.2.1 (H 139 rfl)
   have U357 := P201.trans (P207.trans (P212.trans P352))
   have F358 := U357.fe F190 (nS rfl)
   have U359 := Pq117.trans (P129.trans (P135.trans (Pq146.trans (Pq166.trans (P184.trans (P201.trans (P207.trans (P212.trans P352))))))))
   have F360 := U359.fe F107 (nS rfl)
   have F361 := U359.lj F108
   have F362 := U359.fe F110 (nS rfl)
   have F363 := U359.li F111
   have F364 := U359.fe F112 (nS rfl)
   have F365 := U359.lj F113
   have U366 := Pq166.trans (P184.trans (P201.trans (P207.trans (P212.trans P352))))
   have F367 := U366.ex F164
   have go368 := (s_isub (s_iload go356 X356 hx (H 140 rfl) rfl) X356 hx (H 141 rfl))
   obtain ⟨cq369, qa369, qb369⟩ := (F367).cell
   obtain ⟨_, _, ⟨T369, L369, k369, n369⟩, -, X369, ⟨Lc369, hQ369, l369, y369, z369⟩, g369⟩ := c_b go368 (X356.privateBack hx (y := y_8) hown (mvT hZ (own_w hw 220 rfl)) (mvT hZ (own_w hw 221 rfl)) (own_selp (mvT hZ (own_w hw 40 rfl)) (mvP hZ (own_w hw 222 rfl)) (mvT hZ (own_w hw 221 rfl)) (by decide)) (Cond.privateMethod_at (mvP hZ (own_w hw 222 rfl) (args := #[]))) (mvT hZ (own_w hw 223 rfl)) (by decide) (backOf (W := 0) (rm20 l Z a0 hw [] a1 c10 (r_14 + 1) c10 ((r_14 + 1) + 1) ((2 : Int32) - (r_14 + 1)) t12 f12 u12 t12 f12 u12 h351 n0 Z352 F358 F360 F361 F362 F363 F364 F365 F360 F361 F362 F363 F364 F365 gt12 gf12 gu12 (by have q_ := (n_add (nr r_14) nl1 (by omega)); have q1_ := (n_add (n_add (nr r_14) nl1 (by omega)) nl1 (by omega)); have q2_ := (n_sub nl2 (n_add (nr r_14) nl1 (by omega)) (by omega)); omega)) hZ (own_w hw 223 rfl) (own_w hw 41 rfl) (by decide) (by decide)) (g := mkF m _ _ _) rfl (by rw [hml]; rfl) (Steps.refl _) (a := a1) (by rw [e356]; exact qa369) qb369 (argsL := [(.ref c10), (.int (r_14 + 1)), (.ref c10), (.int ((r_14 + 1) + 1)), (.int ((2 : Int32) - (r_14 + 1)))]) (rest := []) (lenOf pd19_3 rfl) rfl (by show 2 * 0 + _ ≤ _; exact Nat.le_of_eq rfl) (H 142 rfl) (fun _ _ => ⟨rfl, e356, (by decide : 6 + 0 ≤ _), (by decide : 24 + 0 ≤ _)⟩))
   dsimp only [Pt.U, Pt.locs, Pt.cells, Pt.slots] at X369 l369 y369 z369 g369 hQ369
   subst l369 y369 z369
   obtain ⟨rfl, Nq369, Kn369, Pq369⟩ := hQ369
   have N369 := Fr.app N351 Nq369
   have KN370 := KN352.trans Kn369
   have Z370 := Nat.le_trans Z352 Pq369.1
   have go371 := cv g369
   have F372 := Pq369.fe F354 (nS rfl)
   have go373 := (s_dup (s_aload go371 X369 hx (H 143 rfl) rfl rfl) X369 hx (H 144 rfl) rfl)
   obtain ⟨T374, X374, e374, go374⟩ := gF go373 X369 hx hZ hown (own_w hw 112 rfl) rfl F372.2.1 (H 145 rfl)
   have U375 := Pq166.trans (P184.trans (P201.trans (P207.trans (P212.trans (P352.trans Pq369)))))
   have F376 := F161.pres U375 (hS rfl)
   have go377 := (s_iaddE (s_iconst go374 X374 hx (H 146 rfl) (v := 1) rfl) X374 hx (H 147 rfl) (v := 3) rfl)
   obtain ⟨T378, h378, X378, e378, W378, go378⟩ := pF go377 X374 hx hZ hown (own_w hw 112 rfl) e374 F372 (Or.inl (own_w hw 113 rfl)) pf_0 rfl rfl (H 148 rfl)
   have Fw378 := F372.self W378
   have P379 : Pres Z a0 _ _ _ := Pres.fIx (by decide) F372 W378 (by decide)
   have KN379 := KN370.trans (KN.wr W378 gc12)
   have Z379 := Nat.le_trans Z370 P379.1
   have F380 : CC Z a0 h378 n0 h0.size oB vs cc sg := F376.upd P379 Fw378 (by have q_ := nl3; omega) (by omega)
   have N378 := Fr.snoc X378 N369 gc12
   have U381 := Pq369.trans P379
   have F382 := U381.fe F360 (nS rfl)
   have go383 := (s_aload go378 X378 hx (H 149 rfl) rfl rfl)
   obtain ⟨T384, X384, e384, go384⟩ := gF go383 X378 hx hZ hown (own_w hw 173 rfl) e378 F382.2.1 (H 150 rfl)
   have F385 := U381.lj F361
   have go386 := (s_lloadN (s_iload go384 X384 hx (H 151 rfl) rfl) X384 hx (H 152 rfl) rfl)
   obtain ⟨T387, h387, X387, e387, W387, go387⟩ := sJ go386 X384 hx hZ e384 F385 (n_in (n_add (nr r_14) nl1 (by omega)) nl4 (by omega)) (H 153 rfl)
   have P388 : Pres Z a0 _ _ _ := Pres.wrJ F385 W387
   have KN388 := KN379.trans (KN.wr W387 gt12)
   have Z388 := Nat.le_trans Z379 P388.1
   have N387 := Fr.snoc X387 N378 gt12
   have U389 := Pq369.trans (P379.trans P388)
   have F390 := U389.fe F362 (nS rfl)
   have go391 := (s_aload go387 X387 hx (H 154 rfl) rfl rfl)
   obtain ⟨T392, X392, e392, go392⟩ := gF go391 X387 hx hZ hown (own_w hw 228 rfl) e387 F390.2.1 (H 155 rfl)
   have F393 := U389.li F363
   have go394 := (s_iconst (s_iload go392 X392 hx (H 156 rfl) rfl) X392 hx (H 157 rfl) (v := 0) rfl)
   obtain ⟨T395, h395, X395, e395, W395, go395⟩ := sI go394 X392 hx hZ e392 F393 (n_in (n_add (nr r_14) nl1 (by omega)) nl4 (by omega)) (H 158 rfl)
   have P396 : Pres Z a0 _ _ _ := Pres.wrI F393 W395
   have KN396 := KN388.trans (KN.wr W395 gf12)
   have Z396 := Nat.le_trans Z388 P396.1
   have N395 := Fr.snoc X395 N387 gf12
   have U397 := Pq369.trans (P379.trans (P388.trans P396))
   have F398 := U397.fe F364 (nS rfl)
   have go399 := (s_aload go395 X395 hx (H 159 rfl) rfl rfl)
   obtain ⟨T400, X400, e400, go400⟩ := gF go399 X395 hx hZ hown (own_w hw 229 rfl) e395 F398.2.1 (H 160 rfl)
   have F401 := U397.fe F358 (nS rfl)
   have go402 := (s_aloadN (s_isub (s_iconst (s_iload go400 X400 hx (H 161 rfl) rfl) X400 hx (H 162 rfl) (v := 1) rfl) X400 hx (H 163 rfl)) X400 hx (H 164 rfl) rfl rfl)
   obtain ⟨T403, X403, e403, go403⟩ := gF go402 X400 hx hZ hown (own_w hw 57 rfl) e400 F401.2.1 (H 165 rfl)
   have go404 := (s_aload (s_imul go403 X403 hx (H 166 rfl)) X403 hx (H 167 rfl) rfl rfl)
   obtain ⟨T405, X405, e405, go405⟩ := gF go404 X403 hx hZ hown (own_w hw 229 rfl) e403 F398.2.1 (H 168 rfl)
   have go406 := (s_aloadN (s_iload go405 X405 hx (H 169 rfl) rfl) X405 hx (H 170 rfl) rfl rfl)
   obtain ⟨T407, X407, e407, go407⟩ := gF go406 X405 hx hZ hown (own_w hw 57 rfl) e405 F401.2.1 (H 171 rfl)
   have go408 := (s_aloadN (s_imul go407 X407 hx (H 172 rfl)) X407 hx (H 173 rfl) rfl rfl)
   obtain ⟨T409, X409, e409, go409⟩ := gF go408 X407 hx hZ hown (own_w hw 57 rfl) e407 F401.2.1 (H 174 rfl)
   have F410 := U397.lj F365
   have na411 := n_cp (n_mul1 (n_sub (n_add (nr r_14) nl1 (by omega)) nl1 (by omega)) nl1) nl1 nl4 (by omega)
   have nb411 := n_cp (n_mul1 (n_add (nr r_14) nl1 (by omega)) nl1) nl1 nl4 (by omega)
   obtain ⟨T411, h411, L411, X411, e411, N411, Kc411, Vc411, st411⟩ := cpJ X409 hx hZ hown (own_w hw 224 rfl) (own_w hw 227 rfl) (own_w hw 225 rfl) (own_w hw 226 rfl) e409 F410 F410 na411.1 nb411.1 na411.2.1 na411.2.2 nb411.2.2 N395 gu12 (pc := 331) (Ls := #[vr a1, vj q2, .second, vi r_2, vr c10, vi (r_14 + 1), vr b59, vi 2]) (rest := []) (by rw [hml]; rfl) (H 175 rfl) (by decide) (W := 0) (Nat.le_of_eq rfl) (by decide)
   have P412 : Pres Z a0 _ _ _ := Pres.cpJ F410 Kc411 Vc411
   have KN412 := KN396.trans (KN.kp Kc411 Z396 (own_all1 gu12))
   have Z412 := Nat.le_trans Z396 P412.1
   have go413 := glm go409 st411
   refine own_f0 (Q := Q19 Z a0 a1 q2 I h0 n0) Bd.notSynchronized hx Bd.returns pre0 X411 go413 (H 176 rfl) e411 (by decide) (by decide) ?_
   have U414 := P388.trans (P396.trans P412)
   have F415 := F380.pres U414 (hS rfl)
   have F417 := U414.fe F382 (nS rfl)
   have F418 := P412.fe F398 (nS rfl)
   have U419 := P184.trans (P201.trans (P207.trans (P212.trans (P352.trans (Pq369.trans (P379.trans (P388.trans (P396.trans P412))))))))
   have F420 := U419.fe F170 (nS rfl)
   have U421 := P396.trans P412
   have F422 := U421.fe F390 (nS rfl)
   have U423 := Pq146.trans (Pq166.trans (P184.trans (P201.trans (P207.trans (P212.trans (P352.trans (Pq369.trans (P379.trans (P388.trans (P396.trans P412))))))))))
   have F424 := U423.fe F143 (nS rfl)
   have F425 := U414.fe Fw378 (nS rfl)
   have U426 := Pq166.trans (P184.trans (P201.trans (P207.trans (P212.trans (P352.trans (Pq369.trans (P379.trans (P388.trans (P396.trans P412)))))))))
   have F427 := U426.fe F1_146 (nS rfl)
   have U428 := P212.trans (P352.trans (Pq369.trans (P379.trans (P388.trans (P396.trans P412)))))
   have F429 := U428.fe Fw206 (ninA (Nat.ne_of_lt l69) (ninF (by decide) (ninF (by decide) ninP0)))
   have F430 := U414.lj F385
   have F431 := P412.lj F410
   have F432 := U419.lj F181
   have F433 := U421.li F393
   have F434 := U426.fe F162 (nS rfl)
   have U435 := Pq117.trans (P129.trans (P135.trans (Pq146.trans (Pq166.trans (P184.trans (P201.trans (P207.trans (P212.trans (P352.trans (Pq369.trans (P379.trans (P388.trans (P396.trans P412)))))))))))))
   have F436 := U435.fe F2_97 (nS rfl)
   have F437 := U419.fe F174 (nS rfl)
   have F438 := U435.fe F4_97 (nS rfl)
   have U439 := P352.trans (Pq369.trans (P379.trans (P388.trans (P396.trans P412))))
   have F440 := U439.fe F214 (nS rfl)
   have U441 := P135.trans (Pq146.trans (Pq166.trans (P184.trans (P201.trans (P207.trans (P212.trans (P352.trans (Pq369.trans (P379.trans (P388.trans (P396.trans P412)))))))))))
   have F442 := U441.fe Fw128 (ninA (Ne.symm (Nat.ne_of_lt l69)) (ninF (by decide) (ninF (by decide) (ninF (by decide) (ninF (by decide) (ninF (by decide) (ninF (by decide) (ninF (by decide) (ninF (by decide) (ninA (Ne.symm (Nat.ne_of_lt l69)) ninP0))))))))))
   have U443 := Pq97.trans (Pq117.trans (P129.trans (P135.trans (Pq146.trans (Pq166.trans (P184.trans (P201.trans (P207.trans (P212.trans (P352.trans (Pq369.trans (P379.trans (P388.trans (P396.trans P412))))))))))))))
   have F444 := U443.fe F86 (ninF (by decide) (ninF (by decide) (ninF (by decide) (ninF (by decide) (ninF (by decide) (ninF (by decide) (ninF (by decide) (ninF (by decide) (ninA (Ne.symm (Nat.ne_of_lt l62)) (ninF (by decide) (ninF (by decide) (ninA (Ne.symm (Nat.ne_of_lt l69)) (ninA (Ne.symm (Nat.ne_of_lt l62)) (ninF (by decide) (ninF (by decide) (ninF (by decide) (ninF (by decide) (ninF (by decide) (ninF (by decide) (ninF (by decide) ninP0))))))))))))))))))))
   have F445 := U439.fe Fw211 (nS rfl)
   have F446 := U426.lj F163
   have F447 := U435.lj L2_97
   have F448 := U419.lj F182
   have F449 := U435.li L4_97
   obtain ⟨sg416, CC416, JJ416⟩ := CC.ins (cA := c10) (cB := b59) (top' := h411.size) F415 iv_17 hI (by omega) va10 (ge_cases (r := r_2) rfl (by have q2_ := JJ.two iv_17 hI; omega) (n_add (nr r_2) nl1 (by omega))) (n_add (nr r_2) nl1 (by omega)) hi_166 (⟨gc12, t12, u12, s12, f12, (3 : Int32), (1 : Int32), x2_146, ⟨gt12, gu12, gs12, gf12⟩, F417, F430, F418, F431, F420, F432, F422, F433, F424, F425, (by decide), F427, F429⟩) (⟨g_b59, t_97, u_97, s_97, f_97, (2 : Int32), (1 : Int32), (0 : Int64), ⟨g1_97, g2_97, g3_97, g4_97⟩, F434, F446, F436, F447, F437, F448, F438, F449, F440, F442, (by decide), F444, F445⟩) (Nat.le_refl _)
   have U450 := P129.trans (P135.trans (Pq146.trans (Pq166.trans (P184.trans (P201.trans (P207.trans (P212.trans (P352.trans (Pq369.trans (P379.trans (P388.trans (P396.trans P412))))))))))))
   have F451 := U450.fe F120 (nS rfl)
   have F452 := P412.fe F401 (nS rfl)
   have F453 := U426.fe F155 (nS rfl)
   have F454 := U426.fe F151 (nS rfl)
   have U455 := P201.trans (P207.trans (P212.trans (P352.trans (Pq369.trans (P379.trans (P388.trans (P396.trans P412)))))))
   have F456 := U455.fe F187 (nS rfl)
   have F457 := U419.fe F1_166 (nS rfl)
   have U458 := P19.trans (P24.trans (P77.trans (Pq97.trans (Pq117.trans (P129.trans (P135.trans (Pq146.trans (Pq166.trans (P184.trans (P201.trans (P207.trans (P212.trans (P352.trans (Pq369.trans (P379.trans (P388.trans (P396.trans P412)))))))))))))))))
   have F459 := U458.fe F1_2 (nS rfl)
   have U460 := P24.trans (P77.trans (Pq97.trans (Pq117.trans (P129.trans (P135.trans (Pq146.trans (Pq166.trans (P184.trans (P201.trans (P207.trans (P212.trans (P352.trans (Pq369.trans (P379.trans (P388.trans (P396.trans P412))))))))))))))))
   have F461 := U460.fe Fw18 (nS rfl)
   have U462 := Pq369.trans (P379.trans (P388.trans (P396.trans P412)))
   have F463 := U462.fe Fw351 (nS rfl)
   have F464 := U419.ra R1_166 (nS rfl)
   have F465 := U439.fe F217 (nS rfl)
   have F466 := U426.fe F3_146 (nS rfl)
   have F467 := U426.lj F153
   have F468 := U455.lj F199
   exact ⟨rfl, N411, KN412, ⟨oB, oA, oF, oP, vs2_166, (cc + 1), r_2, r_2, (r_14 + 1), w2_146, sg416, ⟨iga, igb, igc, igd, ige⟩, F451, F452, F453, F454, F456, F457, F459, F461, F463, ⟨(by have q_ := (nr r_2); omega), (by have q_ := (nr r_2); omega), (by have q_ := (n_add (nr r_14) nl1 (by omega)); omega)⟩, F467, F468, F464, CC416, F465, F466, JJ416⟩⟩
  have ihc62_57 := n_neI (nr sz12) nl4 hc62_57
  have go469 := (s_iload (s_aloadN (s_icmpYes go56 X56 hx (H 37 rfl) (pc' := 244) rfl (by decide) (feq hc62_57).2) X56 hx (H 128 rfl) rfl rfl) X56 hx (H 129 rfl) rfl)
  obtain ⟨T470, h470, X470, e470, W470, go470⟩ := pF go469 X56 hx hZ hown (own_w hw 218 rfl) e56 Fw23 (Or.inl (own_w hw 219 rfl)) pf_0 rfl rfl (H 130 rfl)
  have Fw470 := Fw23.self W470
  have P471 : Pres Z a0 _ _ _ := Pres.fIx (by decide) Fw23 W470 (by decide)
  have KN471 := KN24.trans (KN.wr W470 iga)
  have Z471 := Nat.le_trans Z24 P471.1
  have N470 := Fr.snoc X470 N23 iga
  have F472 := P471.fe F50 (nS rfl)
  have go473 := (s_aload (s_iadd (s_iconst (s_iload (s_aload (s_iload (s_aload (s_aloadN go470 X470 hx (H 131 rfl) rfl rfl) X470 hx (H 132 rfl) rfl rfl) X470 hx (H 133 rfl) rfl) X470 hx (H 134 rfl) rfl rfl) X470 hx (H 135 rfl) rfl) X470 hx (H 136 rfl) (v := 1) rfl) X470 hx (H 137 rfl)) X470 hx (H 138 rfl) rfl rfl)
  obtain ⟨T474, X474, e474, go474⟩ := gF go473 X470 hx hZ hown (own_w hw 112 rfl) e470 F472.2.1 (H 139 rfl)
  have U475 := Pq2.trans (P19.trans (P24.trans P471))
  have F476 := U475.fe iv_2 (nS rfl)
  have F477 := P471.fe F26 (nS rfl)
  have F478 := P471.lj F29
  have U479 := P19.trans (P24.trans P471)
  have F480 := U479.fe c7_12 (nS rfl)
  have F481 := U479.li c8_12
  have F482 := U479.fe c3_12 (nS rfl)
  have F483 := U479.lj c4_12
  have F484 := U475.ex iv_1.1
  have go485 := (s_isub (s_iload go474 X474 hx (H 140 rfl) rfl) X474 hx (H 141 rfl))
  obtain ⟨cq486, qa486, qb486⟩ := (F484).cell
  obtain ⟨_, _, ⟨T486, L486, k486, n486⟩, -, X486, ⟨Lc486, hQ486, l486, y486, z486⟩, g486⟩ := c_b go485 (X474.privateBack hx (y := y_8) hown (mvT hZ (own_w hw 220 rfl)) (mvT hZ (own_w hw 221 rfl)) (own_selp (mvT hZ (own_w hw 40 rfl)) (mvP hZ (own_w hw 222 rfl)) (mvT hZ (own_w hw 221 rfl)) (by decide)) (Cond.privateMethod_at (mvP hZ (own_w hw 222 rfl) (args := #[]))) (mvT hZ (own_w hw 223 rfl)) (by decide) (backOf (W := 0) (rm20 l Z a0 hw [] a1 c10 (r_14 + 1) c10 ((r_14 + 1) + 1) (sz12 - (r_14 + 1)) t12 f12 u12 t12 f12 u12 h470 n0 Z471 F476 F477 F478 F480 F481 F482 F483 F477 F478 F480 F481 F482 F483 gt12 gf12 gu12 (by have q_ := (n_add (nr r_14) nl1 (by omega)); have q1_ := (n_add (n_add (nr r_14) nl1 (by omega)) nl1 (by omega)); have q2_ := (n_sub (nr sz12) (n_add (nr r_14) nl1 (by omega)) (by omega)); omega)) hZ (own_w hw 223 rfl) (own_w hw 41 rfl) (by decide) (by decide)) (g := mkF m _ _ _) rfl (by rw [hml]; rfl) (Steps.refl _) (a := a1) (by rw [e474]; exact qa486) qb486 (argsL := [(.ref c10), (.int (r_14 + 1)), (.ref c10), (.int ((r_14 + 1) + 1)), (.int (sz12 - (r_14 + 1)))]) (rest := []) (lenOf pd19_3 rfl) rfl (by show 2 * 0 + _ ≤ _; exact Nat.le_of_eq rfl) (H 142 rfl) (fun _ _ => ⟨rfl, e474, (by decide : 0 + 0 ≤ _), (by decide : 0 + 0 ≤ _)⟩))
  dsimp only [Pt.U, Pt.locs, Pt.cells, Pt.slots] at X486 l486 y486 z486 g486 hQ486
  subst l486 y486 z486
  obtain ⟨rfl, Nq486, Kn486, Pq486⟩ := hQ486
  have N486 := Fr.app N470 Nq486
  have KN487 := KN471.trans Kn486
  have Z487 := Nat.le_trans Z471 Pq486.1
  have go488 := cv g486
  have F489 := Pq486.fe F472 (nS rfl)
  have go490 := (s_dup (s_aload go488 X486 hx (H 143 rfl) rfl rfl) X486 hx (H 144 rfl) rfl)
  obtain ⟨T491, X491, e491, go491⟩ := gF go490 X486 hx hZ hown (own_w hw 112 rfl) rfl F489.2.1 (H 145 rfl)
  have U492 := P19.trans (P24.trans (P471.trans Pq486))
  have F493 := F11.pres U492 (hS rfl)
  have go494 := (s_iadd (s_iconst go491 X491 hx (H 146 rfl) (v := 1) rfl) X491 hx (H 147 rfl))
  obtain ⟨T495, h495, X495, e495, W495, go495⟩ := pF go494 X491 hx hZ hown (own_w hw 112 rfl) e491 F489 (Or.inl (own_w hw 113 rfl)) pf_0 rfl rfl (H 148 rfl)
  have Fw495 := F489.self W495
  have P496 : Pres Z a0 _ _ _ := Pres.fIx (by decide) F489 W495 (by decide)
  have KN496 := KN487.trans (KN.wr W495 gc12)
  have Z496 := Nat.le_trans Z487 P496.1
  have F497 : CC Z a0 h495 n0 h0.size oB vs cc (sg + 1) := F493.upd P496 Fw495 (by have q_ := (n_add (nr sz12) nl1 (by omega)); omega) (by omega)
  have N495 := Fr.snoc X495 N486 gc12
  have U498 := Pq486.trans P496
  have F499 := U498.fe F477 (nS rfl)
  have go500 := (s_aload go495 X495 hx (H 149 rfl) rfl rfl)
  obtain ⟨T501, X501, e501, go501⟩ := gF go500 X495 hx hZ hown (own_w hw 173 rfl) e495 F499.2.1 (H 150 rfl)
  have F502 := U498.lj F478
  have go503 := (s_lloadN (s_iload go501 X501 hx (H 151 rfl) rfl) X501 hx (H 152 rfl) rfl)
  obtain ⟨T504, h504, X504, e504, W504, go504⟩ := sJ go503 X501 hx hZ e501 F502 (n_in (n_add (nr r_14) nl1 (by omega)) nl4 (by omega)) (H 153 rfl)
  have P505 : Pres Z a0 _ _ _ := Pres.wrJ F502 W504
  have KN505 := KN496.trans (KN.wr W504 gt12)
  have Z505 := Nat.le_trans Z496 P505.1
  have N504 := Fr.snoc X504 N495 gt12
  have U506 := Pq486.trans (P496.trans P505)
  have F507 := U506.fe F480 (nS rfl)
  have go508 := (s_aload go504 X504 hx (H 154 rfl) rfl rfl)
  obtain ⟨T509, X509, e509, go509⟩ := gF go508 X504 hx hZ hown (own_w hw 228 rfl) e504 F507.2.1 (H 155 rfl)
  have F510 := U506.li F481
  have go511 := (s_iconst (s_iload go509 X509 hx (H 156 rfl) rfl) X509 hx (H 157 rfl) (v := 0) rfl)
  obtain ⟨T512, h512, X512, e512, W512, go512⟩ := sI go511 X509 hx hZ e509 F510 (n_in (n_add (nr r_14) nl1 (by omega)) nl4 (by omega)) (H 158 rfl)
  have P513 : Pres Z a0 _ _ _ := Pres.wrI F510 W512
  have KN513 := KN505.trans (KN.wr W512 gf12)
  have Z513 := Nat.le_trans Z505 P513.1
  have N512 := Fr.snoc X512 N504 gf12
  have U514 := Pq486.trans (P496.trans (P505.trans P513))
  have F515 := U514.fe F482 (nS rfl)
  have go516 := (s_aload go512 X512 hx (H 159 rfl) rfl rfl)
  obtain ⟨T517, X517, e517, go517⟩ := gF go516 X512 hx hZ hown (own_w hw 229 rfl) e512 F515.2.1 (H 160 rfl)
  have F518 := U514.fe F476 (nS rfl)
  have go519 := (s_aloadN (s_isub (s_iconst (s_iload go517 X517 hx (H 161 rfl) rfl) X517 hx (H 162 rfl) (v := 1) rfl) X517 hx (H 163 rfl)) X517 hx (H 164 rfl) rfl rfl)
  obtain ⟨T520, X520, e520, go520⟩ := gF go519 X517 hx hZ hown (own_w hw 57 rfl) e517 F518.2.1 (H 165 rfl)
  have go521 := (s_aload (s_imul go520 X520 hx (H 166 rfl)) X520 hx (H 167 rfl) rfl rfl)
  obtain ⟨T522, X522, e522, go522⟩ := gF go521 X520 hx hZ hown (own_w hw 229 rfl) e520 F515.2.1 (H 168 rfl)
  have go523 := (s_aloadN (s_iload go522 X522 hx (H 169 rfl) rfl) X522 hx (H 170 rfl) rfl rfl)
  obtain ⟨T524, X524, e524, go524⟩ := gF go523 X522 hx hZ hown (own_w hw 57 rfl) e522 F518.2.1 (H 171 rfl)
  have go525 := (s_aloadN (s_imul go524 X524 hx (H 172 rfl)) X524 hx (H 173 rfl) rfl rfl)
  obtain ⟨T526, X526, e526, go526⟩ := gF go525 X524 hx hZ hown (own_w hw 57 rfl) e524 F518.2.1 (H 174 rfl)
  have F527 := U514.lj F483
  have na528 := n_cp (n_mul1 (n_sub (n_add (nr r_14) nl1 (by omega)) nl1 (by omega)) nl1) nl1 nl4 (by omega)
  have nb528 := n_cp (n_mul1 (n_add (nr r_14) nl1 (by omega)) nl1) nl1 nl4 (by omega)
  obtain ⟨T528, h528, L528, X528, e528, N528, Kc528, Vc528, st528⟩ := cpJ X526 hx hZ hown (own_w hw 224 rfl) (own_w hw 227 rfl) (own_w hw 225 rfl) (own_w hw 226 rfl) e526 F527 F527 na528.1 nb528.1 na528.2.1 na528.2.2 nb528.2.2 N512 gu12 (pc := 331) (Ls := #[vr a1, vj q2, .second, vi r_2, vr c10, vi (r_14 + 1), .unset, .unset]) (rest := []) (by rw [hml]; rfl) (H 175 rfl) (by decide) (W := 0) (Nat.le_of_eq rfl) (by decide)
  have P529 : Pres Z a0 _ _ _ := Pres.cpJ F527 Kc528 Vc528
  have KN529 := KN513.trans (KN.kp Kc528 Z513 (own_all1 gu12))
  have Z529 := Nat.le_trans Z513 P529.1
  have go530 := glm go526 st528
  refine own_f0 (Q := Q19 Z a0 a1 q2 I h0 n0) Bd.notSynchronized hx Bd.returns pre0 X528 go530 (H 176 rfl) e528 (by decide) (by decide) ?_
  have U531 := P471.trans (Pq486.trans (P496.trans (P505.trans (P513.trans P529))))
  have F532 := U531.fe F54 (nS rfl)
  have F533 := P529.fe F518 (nS rfl)
  have U534 := P19.trans (P24.trans (P471.trans (Pq486.trans (P496.trans (P505.trans (P513.trans P529))))))
  have F535 := U534.fe F5 (nS rfl)
  have U536 := Pq2.trans (P19.trans (P24.trans (P471.trans (Pq486.trans (P496.trans (P505.trans (P513.trans P529)))))))
  have F537 := U536.fe iv_4 (nS rfl)
  have F538 := U536.fe iv_5 (nS rfl)
  have F539 := U536.fe iv_6 (nS rfl)
  have F540 := U534.fe F1_2 (nS rfl)
  have U541 := P24.trans (P471.trans (Pq486.trans (P496.trans (P505.trans (P513.trans P529)))))
  have F542 := U541.fe Fw18 (nS rfl)
  have U543 := Pq486.trans (P496.trans (P505.trans (P513.trans P529)))
  have F544 := U543.fe Fw470 (nS rfl)
  have F545 := U534.ra F8 (nS rfl)
  have F546 := U536.fe iv_15 (nS rfl)
  have F547 := U536.fe iv_16 (nS rfl)
  have U548 := P505.trans (P513.trans P529)
  have F549 := F497.pres U548 (hS rfl)
  have F550 := U536.lj iv_11
  have F551 := U536.lj iv_12
  exact ⟨rfl, N528, KN529, ⟨oB, oA, oF, oP, vs, cc, r_2, r_2, (r_14 + 1), bv, (sg + 1), ⟨iga, igb, igc, igd, ige⟩, F532, F533, F535, F537, F538, F539, F540, F542, F544, ⟨(by have q_ := (nr r_2); omega), (by have q_ := (nr r_2); omega), (by have q_ := (n_add (nr r_14) nl1 (by omega)); omega)⟩, F550, F551, F545, (F549.top (Nat.le_refl _)), F546, F547, (JJ.up iv_17 hI)⟩⟩

def dt18 : List (Nat × Instr × Nat) := [(0, .iload 6, 2), (2, .ifCond .le 8, 3), (5, .aload_n 0, 1), (6, .lload_n 3, 1), (7, .invokevirtual 195, 3), (10, .aload_n 0, 1), (11, .lload_n 1, 1), (12, .invokevirtual 195, 3), (15, .aload_n 0, 1), (16, .aload_n 0, 1), (17, .getfield 118, 3), (20, .aload_n 0, 1), (21, .getfield 121, 3), (24, .lload_n 3, 1), (25, .aload 5, 2), (27, .iload 6, 2), (29, .invokevirtual 199, 3), (32, .aload_n 0, 1), (33, .lload_n 3, 1), (34, .iload 6, 2), (36, .invokevirtual 203, 3), (39, .return_, 1)]
theorem dk18 : ∀ x ∈ dt18, decode prog_99_method_18_code x.1 = .ok x.2 := by decide +kernel
theorem pn_18 : plainName "com/example/slackline/slackline/replay/Steps" = true := by first | (simp [plainName, overriddenIn]; done) | decide +kernel
theorem pd18_0 : parseMethodDescriptor "(J)V" = some ⟨[.long], none⟩ := by decide +kernel
theorem pd18_1 : parseMethodDescriptor "(IIJ[II)V" = some ⟨[.int, .int, .long, (.array .int), .int], none⟩ := by decide +kernel
theorem pd18_2 : parseMethodDescriptor "(JI)V" = some ⟨[.long, .int], none⟩ := by decide +kernel
theorem ef_18 (m : MethodId) (x0 : Addr) (x1 : Int64) (x2 : Int64) (x3 : Addr) : entryFrame m #[(.ref x0), (.long x1), (.long x2), (.ref x3), (.int 1)] 7 = mkF m 0 #[vr x0, vj x1, .second, vj x2, .second, vr x3, vi 1] [] := by first | (simp [entryFrame, mkF, argsToLocals, Value.category]; done) | rfl
def Q18 (Z : State) (a0 : Array Value) (a1 : Addr) (q2 : Int64) (q3 : Int64) (a4 : Addr) (I : Int) (h0 : Heap) (n0 : Nat) (v : Option Value) (h : Heap) (L : List Loc) : Prop := v = none ∧ Fr n0 L ∧ KN n0 h0 h ∧ Inv Z a0 h n0 a1 ((I + 1) + 1)
set_option maxRecDepth 65536 in
set_option maxHeartbeats 40000000 in
theorem rm18 (l : Launch) (Z : State) (a0 : Array Value) (hw : ∀ d ∈ tables_1, d.before a0 Z = true) (ws : List Jvm.Cond) (a1 : Addr) (q2 : Int64) (q3 : Int64) (a4 : Addr) (I : Int) (h0 : Heap) (n0 : Nat) (Z0 : n0 ≤ h0.size) (iv : Inv Z a0 h0 n0 a1 I) (hI : I ≤ 4) (L1 : LI Z h0 a4 (1 : Int32)) (hn : a4 < n0) :
    MetFree l y_16 (head1 (Jvm.Cond.code y_16 prog_99_method_18_code 7 none :: ws) ({ frames := 3, cells := 12, slots := 48, locals := 63 } : Room)) (fun a U => a = #[(.ref a1), (.long q2), (.long q3), (.ref a4), (.int 1)] ∧ Z.Warmed39 U.vm ∧ U.heap = h0) (fun _ _ _ _ _ => True) (fun _ U o U' => ∃ v L, o = .returned v ∧ Q18 Z a0 a1 q2 q3 a4 I h0 n0 v U'.heap L ∧ FrameEnd U o U' L ({ frames := 3, cells := 12, slots := 48, locals := 63 } : Room).cells ({ frames := 3, cells := 12, slots := 48, locals := 63 } : Room).slots) := by
  refine MetFree.of_bodySF (plainFor_of_name pn_18) hisR ?_
  intro p e s m args below meth c s₁ Bd hml0 hP hK
  obtain ⟨rfl, hZ, hh⟩ := hP
  have hx := Bd.exec
  have hby := Bd.bytes
  have hml : c.maxLocals = 7 := hml0
  have hown : s.vm.findClass "com/example/slackline/slackline/replay/Steps" = some m.cls := findClass_of_methodNamed Bd.named
  have hnm := (name_of_methodNamed Bd.named Bd.method).1
  have X0 : Stand p l e ({ frames := 3, cells := 12, slots := 48, locals := 63 } : Room) s m #[(.ref a1), (.long q2), (.long q3), (.ref a4), (.int 1)] below meth c s₁ [] 0 0 := Stand.of_body Bd
  have e0 : s₁.heap = h0 := by rw [← hh, Bd.state]; rfl
  have N0 := Fr.nil n0
  have H : ∀ (k : Nat) {i : Nat} {r : Instr × Nat}, dt18[k]? = some (i, r) → decode c.code i = .ok r := fun _ i r q => hb hby (dk18 (i, r) (List.mem_of_getElem? q))
  have KN0 : KN n0 h0 h0 := KN.refl n0 h0
  obtain ⟨F0, hF0⟩ : ∃ F : JFrame, F = entryFrame m #[(.ref a1), (.long q2), (.long q3), (.ref a4), (.int 1)] 7 := ⟨_, rfl⟩
  have pre0 : ∀ t, Steps p.tables e below (s₁.setTop F0) t → Steps p.tables e below (s₁.setTop (entryFrame m #[(.ref a1), (.long q2), (.long q3), (.ref a4), (.int 1)] 7)) t := fun t k => hF0 ▸ k
  have go0 : Go p e below s₁ F0 s₁ (mkF m 0 #[vr a1, vj q2, .second, vj q3, .second, vr a4, vi 1] []) := fun t k => castTop (hF0.trans (ef_18 m a1 q2 q3 a4)) k
  have F1 := Inv.exa iv
  have go2 := (s_lloadN (s_aloadN (s_ifNo (s_iload go0 X0 hx (H 0 rfl) rfl) X0 hx (H 1 rfl) ((if0 _ _).trans (tlt (by decide : (0 : Int32) < 1)).2.2.2)) X0 hx (H 2 rfl) rfl rfl) X0 hx (H 3 rfl) rfl)
  obtain ⟨cq3, kq3, qa3, qb3, qc3⟩ := isOf hZ e0 (F1)
  obtain ⟨_, _, ⟨T3, L3, k3, n3⟩, -, X3, ⟨Lc3, hQ3, l3, y3, z3⟩, g3⟩ := c_b go2 (X0.virtualBack hx (y := y_15) (z := y_15) hown (mvT hZ (own_w hw 211 rfl)) (mvT hZ (own_w hw 212 rfl)) (notFace_of_selects (args := #[]) (mvT hZ (own_w hw 214 rfl))) (mvT hZ (own_w hw 214 rfl)) (mvT hZ (own_w hw 213 rfl)) (by decide) (backOf (W := 0) (rm19 l Z a0 hw [] a1 q3 I h0 n0 Z0 iv (by first | assumption | decide | omega : I ≤ 5)) hZ (own_w hw 215 rfl) (own_w hw 41 rfl) (by decide) (by decide)) qa3 qc3 (g := mkF m _ _ _) rfl (by rw [hml]; rfl) (Steps.refl _) (argsL := [(.long q3)]) (rest := []) (lenOf pd18_0 rfl) rfl (by show 2 * 0 + _ ≤ _; exact Nat.le_of_eq rfl) (H 4 rfl) (fun _ _ => ⟨rfl, e0, (by decide : 0 + 6 ≤ _), (by decide : 0 + 24 ≤ _)⟩))
  dsimp only [Pt.U, Pt.locs, Pt.cells, Pt.slots] at X3 l3 y3 z3 g3 hQ3
  subst l3 y3 z3
  obtain ⟨rfl, Nq3, Kn3, iv_3⟩ := hQ3
  have N3 := Fr.app N0 Nq3
  have KN4 := KN0.trans (Kn3)
  have Z4 := Nat.le_trans Z0 Kn3.1
  have go5 := cv g3
  have F6 := Inv.exa iv_3
  have go7 := (s_lloadN (s_aloadN go5 X3 hx (H 5 rfl) rfl rfl) X3 hx (H 6 rfl) rfl)
  obtain ⟨cq8, kq8, qa8, qb8, qc8⟩ := isOf hZ rfl (F6)
  obtain ⟨_, _, ⟨T8, L8, k8, n8⟩, -, X8, ⟨Lc8, hQ8, l8, y8, z8⟩, g8⟩ := c_b go7 (X3.virtualBack hx (y := y_15) (z := y_15) hown (mvT hZ (own_w hw 211 rfl)) (mvT hZ (own_w hw 212 rfl)) (notFace_of_selects (args := #[]) (mvT hZ (own_w hw 214 rfl))) (mvT hZ (own_w hw 214 rfl)) (mvT hZ (own_w hw 213 rfl)) (by decide) (backOf (W := 0) (rm19 l Z a0 hw [] a1 q2 (I + 1) (T3.heap) n0 Z4 iv_3 (by first | assumption | decide | omega : (I + 1) ≤ 5)) hZ (own_w hw 215 rfl) (own_w hw 41 rfl) (by decide) (by decide)) qa8 qc8 (g := mkF m _ _ _) rfl (by rw [hml]; rfl) (Steps.refl _) (argsL := [(.long q2)]) (rest := []) (lenOf pd18_0 rfl) rfl (by show 2 * 0 + _ ≤ _; exact Nat.le_of_eq rfl) (H 7 rfl) (fun _ _ => ⟨rfl, rfl, (by decide : 6 + 6 ≤ _), (by decide : 24 + 24 ≤ _)⟩))
  dsimp only [Pt.U, Pt.locs, Pt.cells, Pt.slots] at X8 l8 y8 z8 g8 hQ8
  subst l8 y8 z8
  obtain ⟨rfl, Nq8, Kn8, iv_8⟩ := hQ8
  have N8 := Fr.app N3 Nq8
  have KN9 := KN4.trans (Kn8)
  have Z9 := Nat.le_trans Z4 Kn8.1
  obtain ⟨oBv8, oAv8, oFv8, oPv8, vsv8, ccv8, lfv8, scv8, ssv8, bvv8, sgv8, ⟨igav8, igbv8, igcv8, igdv8, igev8⟩, ivv8_1, ivv8_2, ivv8_3, ivv8_4, ivv8_5, ivv8_6, ivv8_7, ivv8_8, ivv8_9, ivv8_10, ivv8_11, ivv8_12, ivv8_13, ivv8_14, ivv8_15, ivv8_16, ivv8_17⟩ := id iv_8
  have ivcv8 := JJ.ccI ivv8_17
  have go10 := cv g8
  have go11 := (s_aloadN (s_aloadN go10 X8 hx (H 8 rfl) rfl rfl) X8 hx (H 9 rfl) rfl rfl)
  obtain ⟨T12, X12, e12, go12⟩ := gF go11 X8 hx hZ hown (own_w hw 216 rfl) rfl ivv8_8.2.1 (H 10 rfl)
  have go13 := (s_aloadN go12 X12 hx (H 11 rfl) rfl rfl)
  obtain ⟨T14, X14, e14, go14⟩ := gF go13 X12 hx hZ hown (own_w hw 218 rfl) e12 ivv8_9.2.1 (H 12 rfl)
  have F15 := (L1.same (Kn3.2 _ hn)).same (Kn8.2 _ hn)
  have go16 := (s_iload (s_aload (s_lloadN go14 X14 hx (H 13 rfl) rfl) X14 hx (H 14 rfl) rfl rfl) X14 hx (H 15 rfl) rfl)
  obtain ⟨cq17, qa17, qb17⟩ := (ivv8_1.1).cell
  obtain ⟨_, _, ⟨T17, L17, k17, n17⟩, -, X17, ⟨Lc17, hQ17, l17, y17, z17⟩, g17⟩ := c_b go16 (X14.privateBack hx (y := y_14) hown (mvT hZ (own_w hw 230 rfl)) (mvT hZ (own_w hw 231 rfl)) (own_selp (mvT hZ (own_w hw 40 rfl)) (mvP hZ (own_w hw 232 rfl)) (mvT hZ (own_w hw 231 rfl)) (by decide)) (Cond.privateMethod_at (mvP hZ (own_w hw 232 rfl) (args := #[]))) (mvT hZ (own_w hw 233 rfl)) (by decide) (backOf (W := 0) (rm21 l Z a0 hw [] a1 scv8 ssv8 q3 a4 ((I + 1) + 1) (T8.heap) n0 Z9 iv_8 F15 ivv8_10.2.1 ivv8_10.2.2) hZ (own_w hw 233 rfl) (own_w hw 41 rfl) (by decide) (by decide)) (g := mkF m _ _ _) rfl (by rw [hml]; rfl) (Steps.refl _) (a := a1) (by rw [e14]; exact qa17) qb17 (argsL := [(.int scv8), (.int ssv8), (.long q3), (.ref a4), (.int 1)]) (rest := []) (lenOf pd18_1 rfl) rfl (by show 2 * 0 + _ ≤ _; exact Nat.le_of_eq rfl) (H 16 rfl) (fun _ _ => ⟨rfl, e14, (by decide : 12 + 0 ≤ _), (by decide : 48 + 0 ≤ _)⟩))
  dsimp only [Pt.U, Pt.locs, Pt.cells, Pt.slots] at X17 l17 y17 z17 g17 hQ17
  subst l17 y17 z17
  obtain ⟨rfl, Nq17, Kn17, iv_17⟩ := hQ17
  have N17 := Fr.app N8 Nq17
  have KN18 := KN9.trans (Kn17)
  have Z18 := Nat.le_trans Z9 Kn17.1
  have go19 := cv g17
  have F20 := Inv.exa iv_17
  have go21 := (s_iload (s_lloadN (s_aloadN go19 X17 hx (H 17 rfl) rfl rfl) X17 hx (H 18 rfl) rfl) X17 hx (H 19 rfl) rfl)
  obtain ⟨cq22, kq22, qa22, qb22, qc22⟩ := isOf hZ rfl (F20)
  obtain ⟨_, _, ⟨T22, L22, k22, n22⟩, -, X22, ⟨Lc22, hQ22, l22, y22, z22⟩, g22⟩ := c_b go21 (X17.virtualBack hx (y := y_13) (z := y_13) hown (mvT hZ (own_w hw 237 rfl)) (mvT hZ (own_w hw 238 rfl)) (notFace_of_selects (args := #[]) (mvT hZ (own_w hw 240 rfl))) (mvT hZ (own_w hw 240 rfl)) (mvT hZ (own_w hw 239 rfl)) (by decide) (backOf (W := 0) (rm23 l Z a0 hw [] a1 q3 ((I + 1) + 1) (T17.heap) n0 Z18 iv_17) hZ (own_w hw 241 rfl) (own_w hw 41 rfl) (by decide) (by decide)) qa22 qc22 (g := mkF m _ _ _) rfl (by rw [hml]; rfl) (Steps.refl _) (argsL := [(.long q3), (.int 1)]) (rest := []) (lenOf pd18_2 rfl) rfl (by show 2 * 0 + _ ≤ _; exact Nat.le_of_eq rfl) (H 20 rfl) (fun _ _ => ⟨rfl, rfl, (by decide : 12 + 0 ≤ _), (by decide : 48 + 0 ≤ _)⟩))
  dsimp only [Pt.U, Pt.locs, Pt.cells, Pt.slots] at X22 l22 y22 z22 g22 hQ22
  subst l22 y22 z22
  obtain ⟨rfl, Nq22, Kn22, iv_22⟩ := hQ22
  have N22 := Fr.app N17 Nq22
  have KN23 := KN18.trans (Kn22)
  have Z23 := Nat.le_trans Z18 Kn22.1
  have go24 := cv g22
  refine own_f0 (Q := Q18 Z a0 a1 q2 q3 a4 I h0 n0) Bd.notSynchronized hx Bd.returns pre0 X22 go24 (H 21 rfl) rfl (by decide) (by decide) ?_
  exact ⟨rfl, N22, KN23, iv_22⟩

def dt16 : List (Nat × Instr × Nat) := [(0, .aload_n 0, 1), (1, .aload_n 1, 1), (2, .putfield 1, 3), (5, .aload_n 0, 1), (6, .invokespecial 7, 3), (9, .aload_n 0, 1), (10, .iload_n 2, 1), (11, .putfield 13, 3), (14, .aload_n 0, 1), (15, .iload_n 3, 1), (16, .putfield 17, 3), (19, .aload_n 0, 1), (20, .aload_n 1, 1), (21, .getfield 20, 3), (24, .iload_n 2, 1), (25, .aaload, 1), (26, .putfield 26, 3), (29, .return_, 1)]
theorem dk16 : ∀ x ∈ dt16, decode prog_102_method_1_code x.1 = .ok x.2 := by decide +kernel
theorem pn_16 : plainName "com/example/slackline/slackline/replay/Steps$Cursor" = true := by first | (simp [plainName, overriddenIn]; done) | decide +kernel
theorem ef_16 (m : MethodId) (x0 : Addr) (x1 : Addr) (x2 : Int32) (x3 : Int32) : entryFrame m #[(.ref x0), (.ref x1), (.int x2), (.int x3)] 4 = mkF m 0 #[vr x0, vr x1, vi x2, vi x3] [] := by first | (simp [entryFrame, mkF, argsToLocals, Value.category]; done) | rfl
def Q16 (Z : State) (a0 : Array Value) (a1 : Addr) (a2 : Addr) (p3 : Int32) (p4 : Int32) (oA : Addr) (vs : List Value) (cx : Addr) (h0 : Heap) (n0 : Nat) (v : Option Value) (h : Heap) (L : List Loc) : Prop := v = none ∧ Fr n0 L ∧ KN n0 h0 h ∧ Pres Z a0 h0 h [(a1, "this$0"), (a1, "chunk"), (a1, "index"), (a1, "in")]
set_option maxRecDepth 65536 in
set_option maxHeartbeats 40000000 in
theorem rm16 (l : Launch) (Z : State) (a0 : Array Value) (hw : ∀ d ∈ tables_1, d.before a0 Z = true) (ws : List Jvm.Cond) (a1 : Addr) (a2 : Addr) (p3 : Int32) (p4 : Int32) (oA : Addr) (vs : List Value) (cx : Addr) (h0 : Heap) (n0 : Nat) (Z0 : n0 ≤ h0.size) (F_this0 : FE Z a0 h0 a1 c_3 "this$0" "Lcom/example/slackline/slackline/replay/Steps;" .null) (F_chunk : FE Z a0 h0 a1 c_3 "chunk" "I" (.int 0)) (F_index : FE Z a0 h0 a1 c_3 "index" "I" (.int 0)) (F_in : FE Z a0 h0 a1 c_3 "in" "Lcom/example/slackline/slackline/replay/Steps$Chunk;" .null) (F1 : FE Z a0 h0 a2 nSt "chunks" dCh (.ref oA)) (R1 : RA Z h0 oA vs) (hat : vs[(p3).toNatClampNeg]? = some (.ref cx)) (hr : 0 ≤ p3.toInt ∧ p3.toInt < 4) (g1 : n0 ≤ a1) :
    MetFree l y_17 (head1 (Jvm.Cond.code y_17 prog_102_method_1_code 4 none :: ws) ({ frames := 1, cells := 0, slots := 0, locals := 12 } : Room)) (fun a U => a = #[(.ref a1), (.ref a2), (.int p3), (.int p4)] ∧ Z.Warmed39 U.vm ∧ U.heap = h0) (fun _ _ _ _ _ => True) (fun _ U o U' => ∃ v L, o = .returned v ∧ Q16 Z a0 a1 a2 p3 p4 oA vs cx h0 n0 v U'.heap L ∧ FrameEnd U o U' L ({ frames := 1, cells := 0, slots := 0, locals := 12 } : Room).cells ({ frames := 1, cells := 0, slots := 0, locals := 12 } : Room).slots) := by
  refine MetFree.of_bodySF (plainFor_of_name pn_16) hisR ?_
  intro p e s m args below meth c s₁ Bd hml0 hP hK
  obtain ⟨rfl, hZ, hh⟩ := hP
  have hx := Bd.exec
  have hby := Bd.bytes
  have hml : c.maxLocals = 4 := hml0
  have hown : s.vm.findClass "com/example/slackline/slackline/replay/Steps$Cursor" = some m.cls := findClass_of_methodNamed Bd.named
  have hnm := (name_of_methodNamed Bd.named Bd.method).1
  have X0 : Stand p l e ({ frames := 1, cells := 0, slots := 0, locals := 12 } : Room) s m #[(.ref a1), (.ref a2), (.int p3), (.int p4)] below meth c s₁ [] 0 0 := Stand.of_body Bd
  have e0 : s₁.heap = h0 := by rw [← hh, Bd.state]; rfl
  have N0 := Fr.nil n0
  have H : ∀ (k : Nat) {i : Nat} {r : Instr × Nat}, dt16[k]? = some (i, r) → decode c.code i = .ok r := fun _ i r q => hb hby (dk16 (i, r) (List.mem_of_getElem? q))
  have KN0 : KN n0 h0 h0 := KN.refl n0 h0
  have PP0 : Pres Z a0 h0 h0 [] := Pres.refl Z a0 h0
  obtain ⟨F0, hF0⟩ : ∃ F : JFrame, F = entryFrame m #[(.ref a1), (.ref a2), (.int p3), (.int p4)] 4 := ⟨_, rfl⟩
  have pre0 : ∀ t, Steps p.tables e below (s₁.setTop F0) t → Steps p.tables e below (s₁.setTop (entryFrame m #[(.ref a1), (.ref a2), (.int p3), (.int p4)] 4)) t := fun t k => hF0 ▸ k
  have go0 : Go p e below s₁ F0 s₁ (mkF m 0 #[vr a1, vr a2, vi p3, vi p4] []) := fun t k => castTop (hF0.trans (ef_16 m a1 a2 p3 p4)) k
  have go1 := (s_aloadN (s_aloadN go0 X0 hx (H 0 rfl) rfl rfl) X0 hx (H 1 rfl) rfl rfl)
  obtain ⟨T2, h2, X2, e2, W2, go2⟩ := pF go1 X0 hx hZ hown (own_w hw 180 rfl) e0 F_this0 (Or.inr ⟨(own_w hw 181 rfl), rfl, hnm⟩) pf_3 rfl rfl (H 2 rfl)
  have Fw2 := F_this0.self W2
  have P3 : Pres Z a0 _ _ _ := Pres.fS F_this0 W2 (by decide)
  have KN3 := KN0.trans (KN.wr W2 g1)
  have Z3 := Nat.le_trans Z0 P3.1
  have N2 := Fr.snoc X2 N0 g1
  have go4 := (s_aloadN go2 X2 hx (H 3 rfl) rfl rfl)
  obtain ⟨T5, X5, e5, go5⟩ := w_1 go4 (initO X2 hx hZ hown (own_w hw 182 rfl) (own_w hw 17 rfl) (own_w hw 18 rfl) e2 (g := mkF m _ _ _) rfl (by rw [hml]; rfl) rfl (H 4 rfl) (by decide) (W := 0) (by show 2 * 0 + _ ≤ _; exact Nat.le_of_eq rfl) (by decide))
  have F6 := P3.fe F_chunk (nS rfl)
  have go7 := (s_iloadN (s_aloadN go5 X5 hx (H 5 rfl) rfl rfl) X5 hx (H 6 rfl) rfl)
  obtain ⟨T8, h8, X8, e8, W8, go8⟩ := pF go7 X5 hx hZ hown (own_w hw 183 rfl) e5 F6 (Or.inl (own_w hw 184 rfl)) pf_0 rfl rfl (H 7 rfl)
  have Fw8 := F6.self W8
  have P9 : Pres Z a0 _ _ _ := Pres.fS F6 W8 (by decide)
  have KN9 := KN3.trans (KN.wr W8 g1)
  have Z9 := Nat.le_trans Z3 P9.1
  have N8 := Fr.snoc X8 N2 g1
  have U10 := P3.trans P9
  have F11 := U10.fe F_index (nS rfl)
  have go12 := (s_iloadN (s_aloadN go8 X8 hx (H 8 rfl) rfl rfl) X8 hx (H 9 rfl) rfl)
  obtain ⟨T13, h13, X13, e13, W13, go13⟩ := pF go12 X8 hx hZ hown (own_w hw 185 rfl) e8 F11 (Or.inl (own_w hw 186 rfl)) pf_0 rfl rfl (H 10 rfl)
  have Fw13 := F11.self W13
  have P14 : Pres Z a0 _ _ _ := Pres.fS F11 W13 (by decide)
  have KN14 := KN9.trans (KN.wr W13 g1)
  have Z14 := Nat.le_trans Z9 P14.1
  have N13 := Fr.snoc X13 N8 g1
  have U15 := P3.trans (P9.trans P14)
  have F16 := U15.fe F1 (nS rfl)
  have go17 := (s_aloadN (s_aloadN go13 X13 hx (H 11 rfl) rfl rfl) X13 hx (H 12 rfl) rfl rfl)
  obtain ⟨T18, X18, e18, go18⟩ := gN go17 X13 hx hZ hown (own_w hw 187 rfl) e13 F16.2.1 (H 13 rfl)
  have F19 := U15.ra R1 (nS rfl)
  have go20 := (s_iloadN go18 X18 hx (H 14 rfl) rfl)
  obtain ⟨cl21, Ar21, hin21, hat21⟩ := RA.at F19 (j := p3) (n_in (nr p3) nl4 (by omega)) hat
  have F22 := U15.fe F_in (nS rfl)
  have go23 := (s_aaload go20 X18 hx hZ e18 Ar21 rfl hin21 hat21 (H 15 rfl))
  obtain ⟨T24, h24, X24, e24, W24, go24⟩ := pF go23 X18 hx hZ hown (own_w hw 188 rfl) e18 F22 (Or.inl (own_w hw 189 rfl)) pf_8 rfl rfl (H 16 rfl)
  have Fw24 := F22.self W24
  have P25 : Pres Z a0 _ _ _ := Pres.fS F22 W24 (by decide)
  have KN25 := KN14.trans (KN.wr W24 g1)
  have Z25 := Nat.le_trans Z14 P25.1
  have N24 := Fr.snoc X24 N13 g1
  refine own_f0 (Q := Q16 Z a0 a1 a2 p3 p4 oA vs cx h0 n0) Bd.notSynchronized hx Bd.returns pre0 X24 go24 (H 17 rfl) e24 (by decide) (by decide) ?_
  exact ⟨rfl, N24, KN25, (((P3.trans P9).trans P14).trans P25)⟩

def dt12 : List (Nat × Instr × Nat) := [(0, .aload_n 0, 1), (1, .lload_n 1, 1), (2, .invokevirtual 98, 3), (5, .istore_n 3, 1), (6, .new 102, 3), (9, .dup, 1), (10, .aload_n 0, 1), (11, .iload_n 3, 1), (12, .aload_n 0, 1), (13, .getfield 11, 3), (16, .iload_n 3, 1), (17, .aaload, 1), (18, .lload_n 1, 1), (19, .invokestatic 104, 3), (22, .invokespecial 108, 3), (25, .areturn, 1)]
theorem dk12 : ∀ x ∈ dt12, decode prog_99_method_6_code x.1 = .ok x.2 := by decide +kernel
theorem pn_12 : plainName "com/example/slackline/slackline/replay/Steps" = true := by first | (simp [plainName, overriddenIn]; done) | decide +kernel
theorem pd12_0 : parseMethodDescriptor "(J)I" = some ⟨[.long], some .int⟩ := by decide +kernel
theorem pd12_1 : parseMethodDescriptor "(Lcom/example/slackline/slackline/replay/Steps$Chunk;J)I" = some ⟨[(.object "com/example/slackline/slackline/replay/Steps$Chunk"), .long], some .int⟩ := by decide +kernel
theorem pd12_2 : parseMethodDescriptor "(Lcom/example/slackline/slackline/replay/Steps;II)V" = some ⟨[(.object "com/example/slackline/slackline/replay/Steps"), .int, .int], none⟩ := by decide +kernel
theorem ef_12 (m : MethodId) (x0 : Addr) (x1 : Int64) : entryFrame m #[(.ref x0), (.long x1)] 4 = mkF m 0 #[vr x0, vj x1, .second, .unset] [] := by first | (simp [entryFrame, mkF, argsToLocals, Value.category]; done) | rfl
def Q12 (Z : State) (a0 : Array Value) (a1 : Addr) (q2 : Int64) (I : Int) (h0 : Heap) (n0 : Nat) (v : Option Value) (h : Heap) (L : List Loc) : Prop := ∃ b : Addr, v = some (.ref b) ∧ Fr n0 L ∧ KN n0 h0 h ∧ Pres Z a0 h0 h [(a1, "lastFloor"), (b, "this$0"), (b, "chunk"), (b, "index"), (b, "in")] ∧ h0.size ≤ b ∧ Inv Z a0 h n0 a1 I
set_option maxRecDepth 65536 in
set_option maxHeartbeats 40000000 in
theorem rm12 (l : Launch) (Z : State) (a0 : Array Value) (hw : ∀ d ∈ tables_1, d.before a0 Z = true) (ws : List Jvm.Cond) (a1 : Addr) (q2 : Int64) (I : Int) (h0 : Heap) (n0 : Nat) (Z0 : n0 ≤ h0.size) (iv : Inv Z a0 h0 n0 a1 I) :
    MetFree l y_18 (head1 (Jvm.Cond.code y_18 prog_99_method_6_code 4 (some (.object "com/example/slackline/slackline/replay/Steps$Cursor")) :: ws) ({ frames := 2, cells := 1, slots := 4, locals := 36 } : Room)) (fun a U => a = #[(.ref a1), (.long q2)] ∧ Z.Warmed39 U.vm ∧ U.heap = h0) (fun _ _ _ _ _ => True) (fun _ U o U' => ∃ v L, o = .returned v ∧ Q12 Z a0 a1 q2 I h0 n0 v U'.heap L ∧ FrameEnd U o U' L ({ frames := 2, cells := 1, slots := 4, locals := 36 } : Room).cells ({ frames := 2, cells := 1, slots := 4, locals := 36 } : Room).slots) := by
  refine MetFree.of_bodySF (plainFor_of_name pn_12) hisR ?_
  intro p e s m args below meth c s₁ Bd hml0 hP hK
  obtain ⟨rfl, hZ, hh⟩ := hP
  have hx := Bd.exec
  have hby := Bd.bytes
  have hml : c.maxLocals = 4 := hml0
  have hown : s.vm.findClass "com/example/slackline/slackline/replay/Steps" = some m.cls := findClass_of_methodNamed Bd.named
  have hnm := (name_of_methodNamed Bd.named Bd.method).1
  have X0 : Stand p l e ({ frames := 2, cells := 1, slots := 4, locals := 36 } : Room) s m #[(.ref a1), (.long q2)] below meth c s₁ [] 0 0 := Stand.of_body Bd
  have e0 : s₁.heap = h0 := by rw [← hh, Bd.state]; rfl
  have N0 := Fr.nil n0
  have H : ∀ (k : Nat) {i : Nat} {r : Instr × Nat}, dt12[k]? = some (i, r) → decode c.code i = .ok r := fun _ i r q => hb hby (dk12 (i, r) (List.mem_of_getElem? q))
  have KN0 : KN n0 h0 h0 := KN.refl n0 h0
  have PP0 : Pres Z a0 h0 h0 [] := Pres.refl Z a0 h0
  obtain ⟨oB, oA, oF, oP, vs, cc, lf, sc, ss, bv, sg, ⟨iga, igb, igc, igd, ige⟩, iv_1, iv_2, iv_3, iv_4, iv_5, iv_6, iv_7, iv_8, iv_9, iv_10, iv_11, iv_12, iv_13, iv_14, iv_15, iv_16, iv_17⟩ := iv
  have ivc := JJ.ccI iv_17
  obtain ⟨F0, hF0⟩ : ∃ F : JFrame, F = entryFrame m #[(.ref a1), (.long q2)] 4 := ⟨_, rfl⟩
  have pre0 : ∀ t, Steps p.tables e below (s₁.setTop F0) t → Steps p.tables e below (s₁.setTop (entryFrame m #[(.ref a1), (.long q2)] 4)) t := fun t k => hF0 ▸ k
  have go0 : Go p e below s₁ F0 s₁ (mkF m 0 #[vr a1, vj q2, .second, .unset] []) := fun t k => castTop (hF0.trans (ef_12 m a1 q2)) k
  have go1 := (s_lloadN (s_aloadN go0 X0 hx (H 0 rfl) rfl rfl) X0 hx (H 1 rfl) rfl)
  obtain ⟨cq2, qa2, qb2⟩ := (iv_1.1).cell
  obtain ⟨_, _, ⟨T2, L2, k2, n2⟩, -, X2, ⟨Lc2, hQ2, l2, y2, z2⟩, g2⟩ := c_b go1 (X0.privateBack hx (y := y_6) hown (mvT hZ (own_w hw 161 rfl)) (mvT hZ (own_w hw 162 rfl)) (own_selp (mvT hZ (own_w hw 40 rfl)) (mvP hZ (own_w hw 163 rfl)) (mvT hZ (own_w hw 162 rfl)) (by decide)) (Cond.privateMethod_at (mvP hZ (own_w hw 163 rfl) (args := #[]))) (mvT hZ (own_w hw 164 rfl)) (by decide) (backOf (W := 0) (rm13 l Z a0 hw [] a1 q2 lf cc oF h0 n0 Z0 iv_7 iv_6 iv_4 iv_11 iv_10.1 ivc iga) hZ (own_w hw 164 rfl) (own_w hw 41 rfl) (by decide) (by decide)) (g := mkF m _ _ _) rfl (by rw [hml]; rfl) (Steps.refl _) (a := a1) (by rw [e0]; exact qa2) qb2 (argsL := [(.long q2)]) (rest := []) (lenOf pd12_0 rfl) rfl (by show 2 * 0 + _ ≤ _; exact Nat.le_of_eq rfl) (H 2 rfl) (fun _ _ => ⟨rfl, e0, (by decide : 0 + 0 ≤ _), (by decide : 0 + 0 ≤ _)⟩))
  dsimp only [Pt.U, Pt.locs, Pt.cells, Pt.slots] at X2 l2 y2 z2 g2 hQ2
  subst l2 y2 z2
  obtain ⟨r_2, rfl, Nq2, Kn2, Pq2, hr_2, F1_2⟩ := hQ2
  have N2 := Fr.app N0 Nq2
  have KN3 := KN0.trans Kn2
  have Z3 := Nat.le_trans Z0 Pq2.1
  have go4 := cr g2
  have go5 := (s_istoreN go4 X2 hx (H 3 rfl) (L' := #[vr a1, vj q2, .second, vi r_2]) rfl)
  obtain ⟨T6, h6, X6, e6, E6, A6, D6, -, go6⟩ := w_4 go5 (newO X2 hx hZ hown (own_w hw 167 rfl) (own_w hw 168 rfl) (own_w hw 169 rfl) rfl (g := mkF m _ _ _) rfl (H 4 rfl) (by decide) (by decide))
  obtain ⟨b6, gz6⟩ : ∃ z, z = T2.heap.size := ⟨_, rfl⟩
  rw [← gz6] at A6 D6 go6
  have F7 := Pq2.fe iv_1 (nS rfl)
  have l8 := Nat.lt_of_lt_of_le F7.lt (Nat.le_of_eq gz6.symm)
  have F9 := Pq2.fe iv_15 (nS rfl)
  have l10 := Nat.lt_of_lt_of_le F9.lt (Nat.le_of_eq gz6.symm)
  have F11 := Pq2.ra iv_13 (nS rfl)
  have l12 := Nat.lt_of_lt_of_le F11.lt (Nat.le_of_eq gz6.symm)
  have F13 := Pq2.lj iv_11
  have l14 := Nat.lt_of_lt_of_le F13.lt (Nat.le_of_eq gz6.symm)
  have F15 := Pq2.lj iv_12
  have l16 := Nat.lt_of_lt_of_le F15.lt (Nat.le_of_eq gz6.symm)
  have g_b6 := Nat.le_trans Z3 (Nat.le_of_eq gz6.symm)
  have sz_b6 := Nat.le_trans KN3.1 (Nat.le_of_eq gz6.symm)
  have P17 : Pres Z a0 _ _ _ := Pres.ext E6
  have KN17 := KN3.trans (KN.ext E6 Z3)
  have Z17 := Nat.le_trans Z3 P17.1
  have F18 := feN A6 D6 (Or.inr (own_w hw 181 rfl)) pf_3 (own_w hw 168 rfl) (v := .null) rfl
  have F19 := feN A6 D6 (Or.inl (own_w hw 184 rfl)) pf_0 (own_w hw 168 rfl) (v := (.int 0)) rfl
  have F20 := feN A6 D6 (Or.inl (own_w hw 186 rfl)) pf_0 (own_w hw 168 rfl) (v := (.int 0)) rfl
  have F21 := feN A6 D6 (Or.inl (own_w hw 189 rfl)) pf_8 (own_w hw 168 rfl) (v := .null) rfl
  have U22 := Pq2.trans P17
  have F23 := U22.fe iv_3 (nS rfl)
  have go24 := (s_aloadN (s_iloadN (s_aloadN (s_dup go6 X6 hx (H 5 rfl) rfl) X6 hx (H 6 rfl) rfl rfl) X6 hx (H 7 rfl) rfl) X6 hx (H 8 rfl) rfl rfl)
  obtain ⟨T25, X25, e25, go25⟩ := gF go24 X6 hx hZ hown (own_w hw 48 rfl) e6 F23.2.1 (H 9 rfl)
  have F26 := P17.ra F11 (nS rfl)
  have go27 := (s_iloadN go25 X25 hx (H 10 rfl) rfl)
  have F29 := iv_14.pres U22 (hS rfl)
  obtain ⟨cl28, c28, Ar28, hin28, hat28, va28, ct28, R28⟩ := CC.at F26 F29 (j := r_2) (nr r_2) (nr cc) (by omega)
  obtain ⟨gc30, t30, u30, s30, f30, sz30, ph30, vv30, ⟨gt30, gu30, gs30, gf30⟩, c1_30, c2_30, c3_30, c4_30, c5_30, c6_30, c7_30, c8_30, c9_30, c10_30, c11_30, c12_30, c13_30⟩ := R28
  have go31 := (s_lloadN (s_aaload go27 X25 hx hZ e25 Ar28 rfl hin28 hat28 (H 11 rfl)) X25 hx (H 12 rfl) rfl)
  obtain ⟨_, _, ⟨T32, L32, k32, n32⟩, -, X32, ⟨Lc32, hQ32, l32, y32, z32⟩, g32⟩ := c_s go31 (Jvm.LawKit.callS X25 hx (y := y_4) hown (mvT hZ (own_w hw 170 rfl)) (mvT hZ (own_w hw 171 rfl)) (mvT hZ (own_w hw 41 rfl)) (mvT hZ (own_w hw 172 rfl)) (by decide) (backOf (W := 4) (rm14 l Z a0 hw [] c28 q2 t30 sz30 h6 n0 Z17 c1_30 c2_30 c10_30 ⟨c11_30.1, c11_30.2.1⟩) hZ (own_w hw 172 rfl) (own_w hw 41 rfl) (by decide) (by decide)) (g := mkF m _ _ _) rfl (by rw [hml]; rfl) (argsL := [(.ref c28), (.long q2)]) (rest := [(.int r_2), (.ref a1), (.ref b6), (.ref b6)]) (lenOf pd12_1 rfl) rfl (by show 2 * 0 + _ ≤ _; exact Nat.le_of_eq rfl) (H 13 rfl) (fun _ _ => ⟨rfl, e25, (by decide : 1 + 0 ≤ _), (by decide : 4 + 0 ≤ _)⟩))
  dsimp only [Pt.U, Pt.locs, Pt.cells, Pt.slots] at X32 l32 y32 z32 g32 hQ32
  subst l32 y32 z32
  obtain ⟨r_32, rfl, Nq32, eh32, hr_32⟩ := hQ32
  have N32 := Fr.app N2 Nq32
  have go33 := cr g32
  obtain ⟨_, _, ⟨T34, L34, k34, n34⟩, -, X34, ⟨Lc34, hQ34, l34, y34, z34⟩, g34⟩ := c_b go33 (own_specialRef X32 hx hZ (y := y_17) rfl hown (own_w hw 177 rfl) (mvT hZ (own_w hw 178 rfl)) (mvT hZ (own_w hw 179 rfl)) (by decide) (backOf (W := 1) (rm16 l Z a0 hw [] b6 a1 r_2 r_32 oA vs c28 h6 n0 Z17 F18 F19 F20 F21 F23 F26 va28 (by first | assumption | decide | omega : 0 ≤ r_2.toInt ∧ r_2.toInt < 4) g_b6) hZ (own_w hw 179 rfl) (own_w hw 169 rfl) (by decide) (by decide)) (g := mkF m _ _ _) rfl (by rw [hml]; rfl) (Steps.refl _) (a := b6) (argsL := [(.ref a1), (.int r_2), (.int r_32)]) (rest := [(.ref b6)]) (lenOf pd12_2 rfl) rfl (by show 2 * 0 + _ ≤ _; exact Nat.le_of_eq rfl) (H 14 rfl) (fun _ _ => ⟨rfl, eh32, (by decide : 1 + 0 ≤ _), (by decide : 4 + 0 ≤ _)⟩))
  dsimp only [Pt.U, Pt.locs, Pt.cells, Pt.slots] at X34 l34 y34 z34 g34 hQ34
  subst l34 y34 z34
  obtain ⟨rfl, Nq34, Kn34, Pq34⟩ := hQ34
  have N34 := Fr.app N32 Nq34
  have KN35 := KN17.trans Kn34
  have Z35 := Nat.le_trans Z17 Pq34.1
  have go36 := cv g34
  obtain ⟨fs, hr, hrun, hended, hW, hsame⟩ := X34.leave (v := some (.ref b6)) (fun h => by rw [Bd.returns] at h; cases h)
  refine ⟨_, _, pre0 _ (go36 _ ?_), hrun, hended, _, _, rfl, ?_, ⟨_, rfl⟩, hW, hsame.mono (by decide) (by decide)⟩
  ·exact retOut X34 hx Bd.returns rfl (Or.inr (Or.inr (Or.inr (Or.inr ⟨rfl, rfl, rfl⟩)))) (H 15 rfl) hr
  ·show Q12 Z a0 a1 q2 I h0 n0 _ T34.heap _
   have U37 := P17.trans Pq34
   have F38 := U37.fe F7 (nS rfl)
   have U39 := Pq2.trans (P17.trans Pq34)
   have F40 := U39.fe iv_2 (nS rfl)
   have F41 := Pq34.fe F23 (nS rfl)
   have F42 := U39.fe iv_4 (nS rfl)
   have F43 := U39.fe iv_5 (nS rfl)
   have F44 := U39.fe iv_6 (nS rfl)
   have F45 := U37.fe F1_2 (nS rfl)
   have F46 := U39.fe iv_8 (nS rfl)
   have F47 := U39.fe iv_9 (nS rfl)
   have F48 := Pq34.ra F26 (nS rfl)
   have F49 := U37.fe F9 (nS rfl)
   have F50 := U39.fe iv_16 (nS rfl)
   have F51 := F29.pres Pq34 (hS rfl)
   have F52 := U37.lj F13
   have F53 := U37.lj F15
   exact ⟨b6, rfl, N34, KN35, ((Pq2.trans P17).trans Pq34), sz_b6, ⟨oB, oA, oF, oP, vs, cc, r_2, sc, ss, bv, sg, ⟨iga, igb, igc, igd, ige⟩, F38, F40, F41, F42, F43, F44, F45, F46, F47, ⟨(by have q_ := (nr r_2); omega), (by have q_ := (nr sc); omega), (by have q_ := (nr ss); omega)⟩, F52, F53, F48, (F51.top (Nat.le_refl _)), F49, F50, iv_17⟩⟩

def dt11 : List (Nat × Instr × Nat) := [(0, .aload_n 0, 1), (1, .aload_n 1, 1), (2, .putfield 1, 3), (5, .aload_n 0, 1), (6, .invokespecial 7, 3), (9, .aload_n 0, 1), (10, .aload_n 0, 1), (11, .getfield 1, 3), (14, .getfield 13, 3), (17, .lconst 0, 1), (18, .invokevirtual 19, 3), (21, .putfield 25, 3), (24, .aload_n 0, 1), (25, .aload_n 0, 1), (26, .getfield 1, 3), (29, .getfield 29, 3), (32, .newarray .long, 2), (34, .putfield 33, 3), (37, .aload_n 0, 1), (38, .aload_n 0, 1), (39, .getfield 1, 3), (42, .getfield 29, 3), (45, .newarray .long, 2), (47, .putfield 37, 3), (50, .return_, 1)]
theorem dk11 : ∀ x ∈ dt11, decode prog_94_method_1_code x.1 = .ok x.2 := by decide +kernel
theorem pn_11 : plainName "com/example/slackline/slackline/replay/Plan$Walk" = true := by first | (simp [plainName, overriddenIn]; done) | decide +kernel
theorem pd11_0 : parseMethodDescriptor "(J)Lcom/example/slackline/slackline/replay/Steps$Cursor;" = some ⟨[.long], some (.object "com/example/slackline/slackline/replay/Steps$Cursor")⟩ := by decide +kernel
theorem ef_11 (m : MethodId) (x0 : Addr) (x1 : Addr) : entryFrame m #[(.ref x0), (.ref x1)] 2 = mkF m 0 #[vr x0, vr x1] [] := by first | (simp [entryFrame, mkF, argsToLocals, Value.category]; done) | rfl
def Q11 (Z : State) (a0 : Array Value) (a1 : Addr) (a2 : Addr) (oS : Addr) (I : Int) (h0 : Heap) (n0 : Nat) (v : Option Value) (h : Heap) (L : List Loc) : Prop := v = none ∧ Fr n0 L ∧ KN n0 h0 h ∧ Inv Z a0 h n0 oS I
set_option maxRecDepth 65536 in
set_option maxHeartbeats 40000000 in
theorem rm11 (l : Launch) (Z : State) (a0 : Array Value) (hw : ∀ d ∈ tables_1, d.before a0 Z = true) (ws : List Jvm.Cond) (a1 : Addr) (a2 : Addr) (oS : Addr) (I : Int) (h0 : Heap) (n0 : Nat) (Z0 : n0 ≤ h0.size) (F_this0 : FE Z a0 h0 a1 c_4 "this$0" "Lcom/example/slackline/slackline/replay/Plan;" .null) (F_planStep : FE Z a0 h0 a1 c_4 "planStep" "Lcom/example/slackline/slackline/replay/Steps$Cursor;" .null) (F_most : FE Z a0 h0 a1 c_4 "most" "[J" .null) (F_room : FE Z a0 h0 a1 c_4 "room" "[J" .null) (F1 : FE Z a0 h0 a2 c_5 "steps" "Lcom/example/slackline/slackline/replay/Steps;" (.ref oS)) (F2 : FE Z a0 h0 a2 c_5 "kinds" "I" (.int 1)) (iv : Inv Z a0 h0 n0 oS I) (g1 : n0 ≤ a1) :
    MetFree l y_19 (head1 (Jvm.Cond.code y_19 prog_94_method_1_code 2 none :: ws) ({ frames := 3, cells := 3, slots := 6, locals := 52 } : Room)) (fun a U => a = #[(.ref a1), (.ref a2)] ∧ Z.Warmed39 U.vm ∧ U.heap = h0) (fun _ _ _ _ _ => True) (fun _ U o U' => ∃ v L, o = .returned v ∧ Q11 Z a0 a1 a2 oS I h0 n0 v U'.heap L ∧ FrameEnd U o U' L ({ frames := 3, cells := 3, slots := 6, locals := 52 } : Room).cells ({ frames := 3, cells := 3, slots := 6, locals := 52 } : Room).slots) := by
  refine MetFree.of_bodySF (plainFor_of_name pn_11) hisR ?_
  intro p e s m args below meth c s₁ Bd hml0 hP hK
  obtain ⟨rfl, hZ, hh⟩ := hP
  have hx := Bd.exec
  have hby := Bd.bytes
  have hml : c.maxLocals = 2 := hml0
  have hown : s.vm.findClass "com/example/slackline/slackline/replay/Plan$Walk" = some m.cls := findClass_of_methodNamed Bd.named
  have hnm := (name_of_methodNamed Bd.named Bd.method).1
  have X0 : Stand p l e ({ frames := 3, cells := 3, slots := 6, locals := 52 } : Room) s m #[(.ref a1), (.ref a2)] below meth c s₁ [] 0 0 := Stand.of_body Bd
  have e0 : s₁.heap = h0 := by rw [← hh, Bd.state]; rfl
  have N0 := Fr.nil n0
  have H : ∀ (k : Nat) {i : Nat} {r : Instr × Nat}, dt11[k]? = some (i, r) → decode c.code i = .ok r := fun _ i r q => hb hby (dk11 (i, r) (List.mem_of_getElem? q))
  have KN0 : KN n0 h0 h0 := KN.refl n0 h0
  obtain ⟨oB, oA, oF, oP, vs, cc, lf, sc, ss, bv, sg, ⟨iga, igb, igc, igd, ige⟩, iv_1, iv_2, iv_3, iv_4, iv_5, iv_6, iv_7, iv_8, iv_9, iv_10, iv_11, iv_12, iv_13, iv_14, iv_15, iv_16, iv_17⟩ := iv
  have ivc := JJ.ccI iv_17
  obtain ⟨F0, hF0⟩ : ∃ F : JFrame, F = entryFrame m #[(.ref a1), (.ref a2)] 2 := ⟨_, rfl⟩
  have pre0 : ∀ t, Steps p.tables e below (s₁.setTop F0) t → Steps p.tables e below (s₁.setTop (entryFrame m #[(.ref a1), (.ref a2)] 2)) t := fun t k => hF0 ▸ k
  have go0 : Go p e below s₁ F0 s₁ (mkF m 0 #[vr a1, vr a2] []) := fun t k => castTop (hF0.trans (ef_11 m a1 a2)) k
  have go1 := (s_aloadN (s_aloadN go0 X0 hx (H 0 rfl) rfl rfl) X0 hx (H 1 rfl) rfl rfl)
  obtain ⟨T2, h2, X2, e2, W2, go2⟩ := pF go1 X0 hx hZ hown (own_w hw 152 rfl) e0 F_this0 (Or.inr ⟨(own_w hw 153 rfl), rfl, hnm⟩) pf_9 rfl rfl (H 2 rfl)
  have Fw2 := F_this0.self W2
  have P3 : Pres Z a0 _ _ _ := Pres.fS F_this0 W2 (by decide)
  have KN3 := KN0.trans (KN.wr W2 g1)
  have Z3 := Nat.le_trans Z0 P3.1
  have N2 := Fr.snoc X2 N0 g1
  have go4 := (s_aloadN go2 X2 hx (H 3 rfl) rfl rfl)
  obtain ⟨T5, X5, e5, go5⟩ := w_1 go4 (initO X2 hx hZ hown (own_w hw 154 rfl) (own_w hw 17 rfl) (own_w hw 18 rfl) e2 (g := mkF m _ _ _) rfl (by rw [hml]; rfl) rfl (H 4 rfl) (by decide) (W := 0) (by show 2 * 0 + _ ≤ _; exact Nat.le_of_eq rfl) (by decide))
  have go6 := (s_aloadN (s_aloadN go5 X5 hx (H 5 rfl) rfl rfl) X5 hx (H 6 rfl) rfl rfl)
  obtain ⟨T7, X7, e7, go7⟩ := gF go6 X5 hx hZ hown (own_w hw 152 rfl) e5 Fw2.2.1 (H 7 rfl)
  have F8 := P3.fe F1 (nS rfl)
  obtain ⟨T9, X9, e9, go9⟩ := gN go7 X7 hx hZ hown (own_w hw 155 rfl) e7 F8.2.1 (H 8 rfl)
  have F10 := P3.fe iv_1 (nS rfl)
  have F11 := P3.fe iv_2 (nS rfl)
  have F12 := P3.fe iv_3 (nS rfl)
  have F13 := P3.fe iv_4 (nS rfl)
  have F14 := P3.fe iv_5 (nS rfl)
  have F15 := P3.fe iv_6 (nS rfl)
  have F16 := P3.fe iv_7 (nS rfl)
  have F17 := P3.fe iv_8 (nS rfl)
  have F18 := P3.fe iv_9 (nS rfl)
  have F19 := P3.ra iv_13 (nS rfl)
  have F20 := P3.fe iv_15 (nS rfl)
  have F21 := P3.fe iv_16 (nS rfl)
  have F22 := iv_14.pres P3 (hS rfl)
  have F23 := P3.lj iv_11
  have F24 := P3.lj iv_12
  have go25 := (s_lconst go9 X9 hx (H 9 rfl) (v := 0) rfl)
  obtain ⟨cq26, kq26, qa26, qb26, qc26⟩ := isOf hZ e9 (F10.1)
  obtain ⟨_, _, ⟨T26, L26, k26, n26⟩, -, X26, ⟨Lc26, hQ26, l26, y26, z26⟩, g26⟩ := c_b go25 (X9.virtualBack hx (y := y_18) (z := y_18) hown (mvT hZ (own_w hw 156 rfl)) (mvT hZ (own_w hw 157 rfl)) (notFace_of_selects (args := #[]) (mvT hZ (own_w hw 159 rfl))) (mvT hZ (own_w hw 159 rfl)) (mvT hZ (own_w hw 158 rfl)) (by decide) (backOf (W := 1) (rm12 l Z a0 hw [] oS (0 : Int64) I h2 n0 Z3 ⟨oB, oA, oF, oP, vs, cc, lf, sc, ss, bv, sg, ⟨iga, igb, igc, igd, ige⟩, F10, F11, F12, F13, F14, F15, F16, F17, F18, ⟨(by have q_ := (nr lf); omega), (by have q_ := (nr sc); omega), (by have q_ := (nr ss); omega)⟩, F23, F24, F19, (F22.top (Nat.le_refl _)), F20, F21, iv_17⟩) hZ (own_w hw 160 rfl) (own_w hw 41 rfl) (by decide) (by decide)) qa26 qc26 (g := mkF m _ _ _) rfl (by rw [hml]; rfl) (Steps.refl _) (argsL := [(.long 0)]) (rest := [(.ref a1)]) (lenOf pd11_0 rfl) rfl (by show 2 * 0 + _ ≤ _; exact Nat.le_of_eq rfl) (H 10 rfl) (fun _ _ => ⟨rfl, e9, (by decide : 0 + 1 ≤ _), (by decide : 0 + 4 ≤ _)⟩))
  dsimp only [Pt.U, Pt.locs, Pt.cells, Pt.slots] at X26 l26 y26 z26 g26 hQ26
  subst l26 y26 z26
  obtain ⟨b_26, rfl, Nq26, Kn26, Pq26, hb_26, iv_26⟩ := hQ26
  have N26 := Fr.app N2 Nq26
  have l27 := Nat.lt_of_lt_of_le Fw2.lt hb_26
  have l28 := Nat.lt_of_lt_of_le F8.lt hb_26
  have l29 := Nat.lt_of_lt_of_le F10.lt hb_26
  have l30 := Nat.lt_of_lt_of_le F20.lt hb_26
  have l31 := Nat.lt_of_lt_of_le F19.lt hb_26
  have l32 := Nat.lt_of_lt_of_le F23.lt hb_26
  have l33 := Nat.lt_of_lt_of_le F24.lt hb_26
  have g_b_26 := Nat.le_trans Z3 hb_26
  have sz_b_26 := Nat.le_trans KN3.1 hb_26
  have KN34 := KN3.trans Kn26
  have Z34 := Nat.le_trans Z3 Pq26.1
  obtain ⟨oBv26, oAv26, oFv26, oPv26, vsv26, ccv26, lfv26, scv26, ssv26, bvv26, sgv26, ⟨igav26, igbv26, igcv26, igdv26, igev26⟩, ivv26_1, ivv26_2, ivv26_3, ivv26_4, ivv26_5, ivv26_6, ivv26_7, ivv26_8, ivv26_9, ivv26_10, ivv26_11, ivv26_12, ivv26_13, ivv26_14, ivv26_15, ivv26_16, ivv26_17⟩ := id iv_26
  have ivcv26 := JJ.ccI ivv26_17
  have go35 := cr g26
  have U36 := P3.trans Pq26
  have F37 := U36.fe F_planStep (nS rfl)
  obtain ⟨T38, h38, X38, e38, W38, go38⟩ := pF go35 X26 hx hZ hown (own_w hw 190 rfl) rfl F37 (Or.inr ⟨(own_w hw 191 rfl), rfl, hnm⟩) pf_10 rfl rfl (H 11 rfl)
  have Fw38 := F37.self W38
  have P39 : Pres Z a0 _ _ _ := Pres.fS F37 W38 (by decide)
  have KN39 := KN34.trans (KN.wr W38 g1)
  have Z39 := Nat.le_trans Z34 P39.1
  have N38 := Fr.snoc X38 N26 g1
  have U40 := Pq26.trans P39
  have F41 := U40.fe Fw2 (ninF (by decide) (ninA (Nat.ne_of_lt l27) (ninF (by decide) (ninF (by decide) (ninF (by decide) (ninF (by decide) ninP0))))))
  have go42 := (s_aloadN (s_aloadN go38 X38 hx (H 12 rfl) rfl rfl) X38 hx (H 13 rfl) rfl rfl)
  obtain ⟨T43, X43, e43, go43⟩ := gF go42 X38 hx hZ hown (own_w hw 152 rfl) e38 F41.2.1 (H 14 rfl)
  have U44 := P3.trans (Pq26.trans P39)
  have F45 := U44.fe F2 (nS rfl)
  obtain ⟨T46, X46, e46, go46⟩ := gN go43 X43 hx hZ hown (own_w hw 192 rfl) e43 F45.2.1 (H 15 rfl)
  obtain ⟨T47, h47, k47, X47, e47, E47, A47, go47⟩ := w_3 go46 (newP X46 hx hZ (own_w hw 19 rfl) e46 (g := mkF m _ _ _) rfl (H 16 rfl) rfl (by decide) (cap := 1) (by decide) (by decide) (by decide) (by decide))
  obtain ⟨b47, gz47⟩ : ∃ z, z = h38.size := ⟨_, rfl⟩
  rw [← gz47] at A47 go47
  have l48 := Nat.lt_of_lt_of_le F41.lt (Nat.le_of_eq gz47.symm)
  have F49 := U40.fe F8 (nS rfl)
  have l50 := Nat.lt_of_lt_of_le F49.lt (Nat.le_of_eq gz47.symm)
  have F51 := P39.fe ivv26_1 (nS rfl)
  have l52 := Nat.lt_of_lt_of_le F51.lt (Nat.le_of_eq gz47.symm)
  have F53 := U40.fe F20 (nS rfl)
  have l54 := Nat.lt_of_lt_of_le F53.lt (Nat.le_of_eq gz47.symm)
  have F55 := U40.ra F19 (nS rfl)
  have l56 := Nat.lt_of_lt_of_le F55.lt (Nat.le_of_eq gz47.symm)
  have F57 := U40.lj F23
  have l58 := Nat.lt_of_lt_of_le F57.lt (Nat.le_of_eq gz47.symm)
  have F59 := U40.lj F24
  have l60 := Nat.lt_of_lt_of_le F59.lt (Nat.le_of_eq gz47.symm)
  have F61 := P39.fe ivv26_15 (nS rfl)
  have l62 := Nat.lt_of_lt_of_le F61.lt (Nat.le_of_eq gz47.symm)
  have F63 := P39.ra ivv26_13 (nS rfl)
  have l64 := Nat.lt_of_lt_of_le F63.lt (Nat.le_of_eq gz47.symm)
  have F65 := P39.lj ivv26_11
  have l66 := Nat.lt_of_lt_of_le F65.lt (Nat.le_of_eq gz47.symm)
  have F67 := P39.lj ivv26_12
  have l68 := Nat.lt_of_lt_of_le F67.lt (Nat.le_of_eq gz47.symm)
  have g_b47 := Nat.le_trans Z39 (Nat.le_of_eq gz47.symm)
  have sz_b47 := Nat.le_trans KN39.1 (Nat.le_of_eq gz47.symm)
  have P69 : Pres Z a0 _ _ _ := Pres.ext E47
  have KN69 := KN39.trans (KN.ext E47 Z39)
  have Z69 := Nat.le_trans Z39 P69.1
  have V47 : LJ Z h47 b47 (1 : Int32) := LJ.of_arv (Arv.new A47 (by decide))
  have U70 := P3.trans (Pq26.trans (P39.trans P69))
  have F71 := U70.fe F_most (nS rfl)
  obtain ⟨T72, h72, X72, e72, W72, go72⟩ := pF go47 X47 hx hZ hown (own_w hw 193 rfl) e47 F71 (Or.inr ⟨(own_w hw 194 rfl), rfl, hnm⟩) pf_5 rfl rfl (H 17 rfl)
  have Fw72 := F71.self W72
  have P73 : Pres Z a0 _ _ _ := Pres.fS F71 W72 (by decide)
  have KN73 := KN69.trans (KN.wr W72 g1)
  have Z73 := Nat.le_trans Z69 P73.1
  have N72 := Fr.snoc X72 N38 g1
  have U74 := P69.trans P73
  have F75 := U74.fe F41 (nS rfl)
  have go76 := (s_aloadN (s_aloadN go72 X72 hx (H 18 rfl) rfl rfl) X72 hx (H 19 rfl) rfl rfl)
  obtain ⟨T77, X77, e77, go77⟩ := gF go76 X72 hx hZ hown (own_w hw 152 rfl) e72 F75.2.1 (H 20 rfl)
  have F78 := U74.fe F45 (nS rfl)
  obtain ⟨T79, X79, e79, go79⟩ := gN go77 X77 hx hZ hown (own_w hw 192 rfl) e77 F78.2.1 (H 21 rfl)
  obtain ⟨T80, h80, k80, X80, e80, E80, A80, go80⟩ := w_3 go79 (newP X79 hx hZ (own_w hw 19 rfl) e79 (g := mkF m _ _ _) rfl (H 22 rfl) rfl (by decide) (cap := 1) (by decide) (by decide) (by decide) (by decide))
  obtain ⟨b80, gz80⟩ : ∃ z, z = h72.size := ⟨_, rfl⟩
  rw [← gz80] at A80 go80
  have l81 := Nat.lt_of_lt_of_le F75.lt (Nat.le_of_eq gz80.symm)
  have F82 := U74.fe F49 (nS rfl)
  have l83 := Nat.lt_of_lt_of_le F82.lt (Nat.le_of_eq gz80.symm)
  have F84 := U74.fe F51 (nS rfl)
  have l85 := Nat.lt_of_lt_of_le F84.lt (Nat.le_of_eq gz80.symm)
  have F86 := U74.fe F53 (nS rfl)
  have l87 := Nat.lt_of_lt_of_le F86.lt (Nat.le_of_eq gz80.symm)
  have F88 := U74.ra F55 (nS rfl)
  have l89 := Nat.lt_of_lt_of_le F88.lt (Nat.le_of_eq gz80.symm)
  have F90 := U74.lj F57
  have l91 := Nat.lt_of_lt_of_le F90.lt (Nat.le_of_eq gz80.symm)
  have F92 := U74.lj F59
  have l93 := Nat.lt_of_lt_of_le F92.lt (Nat.le_of_eq gz80.symm)
  have F94 := U74.fe F61 (nS rfl)
  have l95 := Nat.lt_of_lt_of_le F94.lt (Nat.le_of_eq gz80.symm)
  have F96 := U74.ra F63 (nS rfl)
  have l97 := Nat.lt_of_lt_of_le F96.lt (Nat.le_of_eq gz80.symm)
  have F98 := U74.lj F65
  have l99 := Nat.lt_of_lt_of_le F98.lt (Nat.le_of_eq gz80.symm)
  have F100 := U74.lj F67
  have l101 := Nat.lt_of_lt_of_le F100.lt (Nat.le_of_eq gz80.symm)
  have F102 := P73.lj V47
  have l103 := Nat.lt_of_lt_of_le F102.lt (Nat.le_of_eq gz80.symm)
  have g_b80 := Nat.le_trans Z73 (Nat.le_of_eq gz80.symm)
  have sz_b80 := Nat.le_trans KN73.1 (Nat.le_of_eq gz80.symm)
  have P104 : Pres Z a0 _ _ _ := Pres.ext E80
  have KN104 := KN73.trans (KN.ext E80 Z73)
  have Z104 := Nat.le_trans Z73 P104.1
  have V80 : LJ Z h80 b80 (1 : Int32) := LJ.of_arv (Arv.new A80 (by decide))
  have U105 := P3.trans (Pq26.trans (P39.trans (P69.trans (P73.trans P104))))
  have F106 := U105.fe F_room (nS rfl)
  obtain ⟨T107, h107, X107, e107, W107, go107⟩ := pF go80 X80 hx hZ hown (own_w hw 195 rfl) e80 F106 (Or.inr ⟨(own_w hw 196 rfl), rfl, hnm⟩) pf_5 rfl rfl (H 23 rfl)
  have Fw107 := F106.self W107
  have P108 : Pres Z a0 _ _ _ := Pres.fS F106 W107 (by decide)
  have KN108 := KN104.trans (KN.wr W107 g1)
  have Z108 := Nat.le_trans Z104 P108.1
  have N107 := Fr.snoc X107 N72 g1
  refine own_f0 (Q := Q11 Z a0 a1 a2 oS I h0 n0) Bd.notSynchronized hx Bd.returns pre0 X107 go107 (H 24 rfl) e107 (by decide) (by decide) ?_
  have U109 := P104.trans P108
  have F110 := U109.fe F84 (nS rfl)
  have U111 := P39.trans (P69.trans (P73.trans (P104.trans P108)))
  have F112 := U111.fe ivv26_2 (nS rfl)
  have F113 := U111.fe ivv26_3 (nS rfl)
  have F114 := U111.fe ivv26_4 (nS rfl)
  have F115 := U111.fe ivv26_5 (nS rfl)
  have F116 := U111.fe ivv26_6 (nS rfl)
  have F117 := U111.fe ivv26_7 (nS rfl)
  have F118 := U111.fe ivv26_8 (nS rfl)
  have F119 := U111.fe ivv26_9 (nS rfl)
  have F120 := U109.ra F96 (nS rfl)
  have F121 := U109.fe F94 (nS rfl)
  have F122 := U111.fe ivv26_16 (nS rfl)
  have F123 := ivv26_14.pres U111 (hS rfl)
  have F124 := U109.lj F98
  have F125 := U109.lj F100
  exact ⟨rfl, N107, KN108, ⟨oBv26, oAv26, oFv26, oPv26, vsv26, ccv26, lfv26, scv26, ssv26, bvv26, sgv26, ⟨igav26, igbv26, igcv26, igdv26, igev26⟩, F110, F112, F113, F114, F115, F116, F117, F118, F119, ⟨(by have q_ := (nr lfv26); omega), (by have q_ := (nr scv26); omega), (by have q_ := (nr ssv26); omega)⟩, F124, F125, F120, (F123.top (Nat.le_refl _)), F121, F122, ivv26_17⟩⟩

theorem d7_0 : decode jdk_33_method_47_code 0 = .ok (.iload_n 0, 1) := by decide +kernel
theorem d7_1 : decode jdk_33_method_47_code 1 = .ok (.ifCond .gt 14, 3) := by decide +kernel
theorem d7_4 : decode jdk_33_method_47_code 4 = .ok (.iload_n 0, 1) := by decide +kernel
theorem d7_5 : decode jdk_33_method_47_code 5 = .ok (.ifCond .ne 8, 3) := by decide +kernel
theorem d7_8 : decode jdk_33_method_47_code 8 = .ok (.bipush 32, 2) := by decide +kernel
theorem d7_10 : decode jdk_33_method_47_code 10 = .ok (.goto 4, 3) := by decide +kernel
theorem d7_13 : decode jdk_33_method_47_code 13 = .ok (.iconst 0, 1) := by decide +kernel
theorem d7_14 : decode jdk_33_method_47_code 14 = .ok (.ireturn, 1) := by decide +kernel
theorem d7_15 : decode jdk_33_method_47_code 15 = .ok (.bipush 31, 2) := by decide +kernel
theorem d7_17 : decode jdk_33_method_47_code 17 = .ok (.istore_n 1, 1) := by decide +kernel
theorem d7_18 : decode jdk_33_method_47_code 18 = .ok (.iload_n 0, 1) := by decide +kernel
theorem d7_19 : decode jdk_33_method_47_code 19 = .ok (.ldc_w 264, 3) := by decide +kernel
theorem d7_22 : decode jdk_33_method_47_code 22 = .ok (.if_icmp .lt 11, 3) := by decide +kernel
theorem d7_25 : decode jdk_33_method_47_code 25 = .ok (.iinc 1 (-16), 3) := by decide +kernel
theorem d7_28 : decode jdk_33_method_47_code 28 = .ok (.iload_n 0, 1) := by decide +kernel
theorem d7_29 : decode jdk_33_method_47_code 29 = .ok (.bipush 16, 2) := by decide +kernel
theorem d7_31 : decode jdk_33_method_47_code 31 = .ok (.iushr, 1) := by decide +kernel
theorem d7_32 : decode jdk_33_method_47_code 32 = .ok (.istore_n 0, 1) := by decide +kernel
theorem d7_33 : decode jdk_33_method_47_code 33 = .ok (.iload_n 0, 1) := by decide +kernel
theorem d7_34 : decode jdk_33_method_47_code 34 = .ok (.sipush 256, 3) := by decide +kernel
theorem d7_37 : decode jdk_33_method_47_code 37 = .ok (.if_icmp .lt 11, 3) := by decide +kernel
theorem d7_40 : decode jdk_33_method_47_code 40 = .ok (.iinc 1 (-8), 3) := by decide +kernel
theorem d7_43 : decode jdk_33_method_47_code 43 = .ok (.iload_n 0, 1) := by decide +kernel
theorem d7_44 : decode jdk_33_method_47_code 44 = .ok (.bipush 8, 2) := by decide +kernel
theorem d7_46 : decode jdk_33_method_47_code 46 = .ok (.iushr, 1) := by decide +kernel
theorem d7_47 : decode jdk_33_method_47_code 47 = .ok (.istore_n 0, 1) := by decide +kernel
theorem d7_48 : decode jdk_33_method_47_code 48 = .ok (.iload_n 0, 1) := by decide +kernel
theorem d7_49 : decode jdk_33_method_47_code 49 = .ok (.bipush 16, 2) := by decide +kernel
theorem d7_51 : decode jdk_33_method_47_code 51 = .ok (.if_icmp .lt 10, 3) := by decide +kernel
theorem d7_54 : decode jdk_33_method_47_code 54 = .ok (.iinc 1 (-4), 3) := by decide +kernel
theorem d7_57 : decode jdk_33_method_47_code 57 = .ok (.iload_n 0, 1) := by decide +kernel
theorem d7_58 : decode jdk_33_method_47_code 58 = .ok (.iconst 4, 1) := by decide +kernel
theorem d7_59 : decode jdk_33_method_47_code 59 = .ok (.iushr, 1) := by decide +kernel
theorem d7_60 : decode jdk_33_method_47_code 60 = .ok (.istore_n 0, 1) := by decide +kernel
theorem d7_61 : decode jdk_33_method_47_code 61 = .ok (.iload_n 0, 1) := by decide +kernel
theorem d7_62 : decode jdk_33_method_47_code 62 = .ok (.iconst 4, 1) := by decide +kernel
theorem d7_63 : decode jdk_33_method_47_code 63 = .ok (.if_icmp .lt 10, 3) := by decide +kernel
theorem d7_66 : decode jdk_33_method_47_code 66 = .ok (.iinc 1 (-2), 3) := by decide +kernel
theorem d7_69 : decode jdk_33_method_47_code 69 = .ok (.iload_n 0, 1) := by decide +kernel
theorem d7_70 : decode jdk_33_method_47_code 70 = .ok (.iconst 2, 1) := by decide +kernel
theorem d7_71 : decode jdk_33_method_47_code 71 = .ok (.iushr, 1) := by decide +kernel
theorem d7_72 : decode jdk_33_method_47_code 72 = .ok (.istore_n 0, 1) := by decide +kernel
theorem d7_73 : decode jdk_33_method_47_code 73 = .ok (.iload_n 1, 1) := by decide +kernel
theorem d7_74 : decode jdk_33_method_47_code 74 = .ok (.iload_n 0, 1) := by decide +kernel
theorem d7_75 : decode jdk_33_method_47_code 75 = .ok (.iconst 1, 1) := by decide +kernel
theorem d7_76 : decode jdk_33_method_47_code 76 = .ok (.iushr, 1) := by decide +kernel
theorem d7_77 : decode jdk_33_method_47_code 77 = .ok (.isub, 1) := by decide +kernel
theorem d7_78 : decode jdk_33_method_47_code 78 = .ok (.ireturn, 1) := by decide +kernel
theorem pn_7 : plainName "java/lang/Integer" = true := by first | (simp [plainName, overriddenIn]; done) | decide +kernel
theorem ef_7 (m : MethodId) (x0 : Int32) : entryFrame m #[(.int x0)] 2 = mkF m 0 #[vi x0, .unset] [] := by first | (simp [entryFrame, mkF, argsToLocals, Value.category]; done) | rfl
def Q7 (Z : State) (a0 : Array Value) (p1 : Int32) (h0 : Heap) (n0 : Nat) (v : Option Value) (h : Heap) (L : List Loc) : Prop := ∃ r : Int32, v = some (.int r) ∧ Fr n0 L ∧ h = h0
set_option maxRecDepth 65536 in
set_option maxHeartbeats 40000000 in
theorem rm7 (l : Launch) (Z : State) (a0 : Array Value) (hw : ∀ d ∈ tables_1, d.before a0 Z = true) (ws : List Jvm.Cond) (p1 : Int32) (h0 : Heap) (n0 : Nat) (Z0 : n0 ≤ h0.size) :
    MetFree l y_20 (head1 (Jvm.Cond.code y_20 jdk_33_method_47_code 2 (some .int) :: ws) ({ frames := 0, cells := 0, slots := 0, locals := 0 } : Room)) (fun a U => a = #[(.int p1)] ∧ Z.Warmed39 U.vm ∧ U.heap = h0) (fun _ _ _ _ _ => True) (fun _ U o U' => ∃ v L, o = .returned v ∧ Q7 Z a0 p1 h0 n0 v U'.heap L ∧ FrameEnd U o U' L ({ frames := 0, cells := 0, slots := 0, locals := 0 } : Room).cells ({ frames := 0, cells := 0, slots := 0, locals := 0 } : Room).slots) := by
  refine MetFree.of_bodySF (plainFor_of_name pn_7) hisR ?_
  intro p e s m args below meth c s₁ Bd hml0 hP hK
  obtain ⟨rfl, hZ, hh⟩ := hP
  have hx := Bd.exec
  have hby := Bd.bytes
  have hml : c.maxLocals = 2 := hml0
  have hown : s.vm.findClass "java/lang/Integer" = some m.cls := findClass_of_methodNamed Bd.named
  have hnm := (name_of_methodNamed Bd.named Bd.method).1
  have X0 : Stand p l e ({ frames := 0, cells := 0, slots := 0, locals := 0 } : Room) s m #[(.int p1)] below meth c s₁ [] 0 0 := Stand.of_body Bd
  have e0 : s₁.heap = h0 := by rw [← hh, Bd.state]; rfl
  have N0 := Fr.nil n0
  have H : ∀ {i : Nat} {r : _}, decode jdk_33_method_47_code i = r → decode c.code i = r := fun d => hb hby d
  obtain ⟨F0, hF0⟩ : ∃ F : JFrame, F = entryFrame m #[(.int p1)] 2 := ⟨_, rfl⟩
  have pre0 : ∀ t, Steps p.tables e below (s₁.setTop F0) t → Steps p.tables e below (s₁.setTop (entryFrame m #[(.int p1)] 2)) t := fun t k => hF0 ▸ k
  have go0 : Go p e below s₁ F0 s₁ (mkF m 0 #[vi p1, .unset] []) := fun t k => castTop (hF0.trans (ef_7 m p1)) k
  have go1 := (s_iloadN go0 X0 hx (H d7_0) rfl)
  by_cases hc1_2 : (0 : Int32) < p1
  ·have ihc1_2 := n_ltI nl0 (nr p1) hc1_2
   have go3 := (s_ldcw (s_iloadN (s_istoreN (s_bipush (s_ifYes go1 X0 hx (H d7_1) (pc' := 15) rfl (by decide) ((if0 _ _).trans (tlt hc1_2).2.2.1)) X0 hx (H d7_15) (v := 31) rfl) X0 hx (H d7_17) (L' := #[vi p1, vi 31]) rfl) X0 hx (H d7_18) rfl) X0 hx hown (mvT hZ (own_w hw 68 rfl)) (H d7_19))
   have go5 : Go p e below s₁ F0 s₁ (mkF m 33 #[vi (if p1 < 65536 then p1 else ((p1.toUInt32 >>> ((16 : Int32) &&& 31).toUInt32).toInt32)), vi (if p1 < 65536 then (31 : Int32) else (15 : Int32))] []) := by
    intro t_ k_
    refine go3 t_ ?_
    by_cases hm22_4 : p1 < 65536
    ·simp only [if_pos hm22_4] at k_
     refine o_icmpYes X0 hx (H d7_22) (pc' := 33) rfl (by decide) (tlt hm22_4).1 ?_
     exact k_
    ·simp only [if_neg hm22_4] at k_
     refine o_icmpNo X0 hx (H d7_22) (flt hm22_4).1 ?_
     refine o_iinc X0 hx (H d7_25) rfl (L' := #[vi p1, vi 15]) rfl ?_
     refine o_iloadN X0 hx (H d7_28) rfl ?_
     refine o_bipush X0 hx (H d7_29) (v := 16) rfl ?_
     refine o_iushr X0 hx (H d7_31) ?_
     refine o_istoreN X0 hx (H d7_32) (L' := #[vi ((p1.toUInt32 >>> ((16 : Int32) &&& 31).toUInt32).toInt32), vi 15]) rfl ?_
     exact k_
   obtain ⟨v0, h_v0⟩ : ∃ z : Int32, z = (if p1 < 65536 then p1 else ((p1.toUInt32 >>> ((16 : Int32) &&& 31).toUInt32).toInt32)) := ⟨_, rfl⟩
   have go6 : Go p e below s₁ F0 s₁ (mkF m 33 #[vi v0, vi (if p1 < 65536 then (31 : Int32) else (15 : Int32))] []) := by rw [h_v0]; exact go5
   obtain ⟨w0, h_w0⟩ : ∃ z : Int32, z = (if p1 < 65536 then (31 : Int32) else (15 : Int32)) := ⟨_, rfl⟩
   have go7 : Go p e below s₁ F0 s₁ (mkF m 33 #[vi v0, vi w0] []) := by rw [h_w0]; exact go6
   have go8 := (s_sipush (s_iloadN go7 X0 hx (H d7_33) rfl) X0 hx (H d7_34) (v := 256) rfl)
   have go10 : Go p e below s₁ F0 s₁ (mkF m 48 #[vi (if v0 < 256 then v0 else ((v0.toUInt32 >>> ((8 : Int32) &&& 31).toUInt32).toInt32)), vi (if v0 < 256 then w0 else (w0 + (-8 : Int32)))] []) := by
    intro t_ k_
    refine go8 t_ ?_
    by_cases hm37_9 : v0 < 256
    ·simp only [if_pos hm37_9] at k_
     refine o_icmpYes X0 hx (H d7_37) (pc' := 48) rfl (by decide) (tlt hm37_9).1 ?_
     exact k_
    ·simp only [if_neg hm37_9] at k_
     refine o_icmpNo X0 hx (H d7_37) (flt hm37_9).1 ?_
     refine o_iinc X0 hx (H d7_40) rfl (L' := #[vi v0, vi (w0 + (-8 : Int32))]) rfl ?_
     refine o_iloadN X0 hx (H d7_43) rfl ?_
     refine o_bipush X0 hx (H d7_44) (v := 8) rfl ?_
     refine o_iushr X0 hx (H d7_46) ?_
     refine o_istoreN X0 hx (H d7_47) (L' := #[vi ((v0.toUInt32 >>> ((8 : Int32) &&& 31).toUInt32).toInt32), vi (w0 + (-8 : Int32))]) rfl ?_
     exact k_
   obtain ⟨v1, h_v1⟩ : ∃ z : Int32, z = (if v0 < 256 then v0 else ((v0.toUInt32 >>> ((8 : Int32) &&& 31).toUInt32).toInt32)) := ⟨_, rfl⟩
   have go11 : Go p e below s₁ F0 s₁ (mkF m 48 #[vi v1, vi (if v0 < 256 then w0 else (w0 + (-8 : Int32)))] []) := by rw [h_v1]; exact go10
   obtain ⟨w1, h_w1⟩ : ∃ z : Int32, z = (if v0 < 256 then w0 else (w0 + (-8 : Int32))) := ⟨_, rfl⟩
   have go12 : Go p e below s₁ F0 s₁ (mkF m 48 #[vi v1, vi w1] []) := by rw [h_w1]; exact go11
   have go13 := (s_bipush (s_iloadN go12 X0 hx (H d7_48) rfl) X0 hx (H d7_49) (v := 16) rfl)
   have go15 : Go p e below s₁ F0 s₁ (mkF m 61 #[vi (if v1 < 16 then v1 else ((v1.toUInt32 >>> ((4 : Int32) &&& 31).toUInt32).toInt32)), vi (if v1 < 16 then w1 else (w1 + (-4 : Int32)))] []) := by
    intro t_ k_
    refine go13 t_ ?_
    by_cases hm51_14 : v1 < 16
    ·simp only [if_pos hm51_14] at k_
     refine o_icmpYes X0 hx (H d7_51) (pc' := 61) rfl (by decide) (tlt hm51_14).1 ?_
     exact k_
    ·simp only [if_neg hm51_14] at k_
     refine o_icmpNo X0 hx (H d7_51) (flt hm51_14).1 ?_
     refine o_iinc X0 hx (H d7_54) rfl (L' := #[vi v1, vi (w1 + (-4 : Int32))]) rfl ?_
     refine o_iloadN X0 hx (H d7_57) rfl ?_
     refine o_iconst X0 hx (H d7_58) (v := 4) rfl ?_
     refine o_iushr X0 hx (H d7_59) ?_
     refine o_istoreN X0 hx (H d7_60) (L' := #[vi ((v1.toUInt32 >>> ((4 : Int32) &&& 31).toUInt32).toInt32), vi (w1 + (-4 : Int32))]) rfl ?_
     exact k_
   obtain ⟨v2, h_v2⟩ : ∃ z : Int32, z = (if v1 < 16 then v1 else ((v1.toUInt32 >>> ((4 : Int32) &&& 31).toUInt32).toInt32)) := ⟨_, rfl⟩
   have go16 : Go p e below s₁ F0 s₁ (mkF m 61 #[vi v2, vi (if v1 < 16 then w1 else (w1 + (-4 : Int32)))] []) := by rw [h_v2]; exact go15
   obtain ⟨w2, h_w2⟩ : ∃ z : Int32, z = (if v1 < 16 then w1 else (w1 + (-4 : Int32))) := ⟨_, rfl⟩
   have go17 : Go p e below s₁ F0 s₁ (mkF m 61 #[vi v2, vi w2] []) := by rw [h_w2]; exact go16
   have go18 := (s_iconst (s_iloadN go17 X0 hx (H d7_61) rfl) X0 hx (H d7_62) (v := 4) rfl)
   have go20 : Go p e below s₁ F0 s₁ (mkF m 73 #[vi (if v2 < 4 then v2 else ((v2.toUInt32 >>> ((2 : Int32) &&& 31).toUInt32).toInt32)), vi (if v2 < 4 then w2 else (w2 + (-2 : Int32)))] []) := by
    intro t_ k_
    refine go18 t_ ?_
    by_cases hm63_19 : v2 < 4
    ·simp only [if_pos hm63_19] at k_
     refine o_icmpYes X0 hx (H d7_63) (pc' := 73) rfl (by decide) (tlt hm63_19).1 ?_
     exact k_
    ·simp only [if_neg hm63_19] at k_
     refine o_icmpNo X0 hx (H d7_63) (flt hm63_19).1 ?_
     refine o_iinc X0 hx (H d7_66) rfl (L' := #[vi v2, vi (w2 + (-2 : Int32))]) rfl ?_
     refine o_iloadN X0 hx (H d7_69) rfl ?_
     refine o_iconst X0 hx (H d7_70) (v := 2) rfl ?_
     refine o_iushr X0 hx (H d7_71) ?_
     refine o_istoreN X0 hx (H d7_72) (L' := #[vi ((v2.toUInt32 >>> ((2 : Int32) &&& 31).toUInt32).toInt32), vi (w2 + (-2 : Int32))]) rfl ?_
     exact k_
   obtain ⟨v3, h_v3⟩ : ∃ z : Int32, z = (if v2 < 4 then v2 else ((v2.toUInt32 >>> ((2 : Int32) &&& 31).toUInt32).toInt32)) := ⟨_, rfl⟩
   have go21 : Go p e below s₁ F0 s₁ (mkF m 73 #[vi v3, vi (if v2 < 4 then w2 else (w2 + (-2 : Int32)))] []) := by rw [h_v3]; exact go20
   obtain ⟨w3, h_w3⟩ : ∃ z : Int32, z = (if v2 < 4 then w2 else (w2 + (-2 : Int32))) := ⟨_, rfl⟩
   have go22 : Go p e below s₁ F0 s₁ (mkF m 73 #[vi v3, vi w3] []) := by rw [h_w3]; exact go21
   have go23 := (s_isub (s_iushr (s_iconst (s_iloadN (s_iloadN go22 X0 hx (H d7_73) rfl) X0 hx (H d7_74) rfl) X0 hx (H d7_75) (v := 1) rfl) X0 hx (H d7_76)) X0 hx (H d7_77))
   refine own_fI (Q := Q7 Z a0 p1 h0 n0) Bd.notSynchronized hx Bd.returns pre0 X0 go23 (H d7_78) e0 (by decide) (by decide) ?_
   exact ⟨(w3 - ((v3.toUInt32 >>> ((1 : Int32) &&& 31).toUInt32).toInt32)), rfl, N0, rfl⟩
  have ihc1_2 := n_nltI nl0 (nr p1) hc1_2
  have go24 := (s_iloadN (s_ifNo go1 X0 hx (H d7_1) ((if0 _ _).trans (flt hc1_2).2.2.1)) X0 hx (H d7_4) rfl)
  by_cases hc5_25 : p1 = 0
  ·have ihc5_25 := n_eqI (nr p1) nl0 hc5_25
   have go26 := (s_goto (s_bipush (s_ifNo go24 X0 hx (H d7_5) ((if0 _ _).trans (teq hc5_25).2)) X0 hx (H d7_8) (v := 32) rfl) X0 hx (H d7_10) (pc' := 14) rfl (by decide))
   refine own_fI (Q := Q7 Z a0 p1 h0 n0) Bd.notSynchronized hx Bd.returns pre0 X0 go26 (H d7_14) e0 (by decide) (by decide) ?_
   exact ⟨(32 : Int32), rfl, N0, rfl⟩
  have ihc5_25 := n_neI (nr p1) nl0 hc5_25
  have go27 := (s_iconst (s_ifYes go24 X0 hx (H d7_5) (pc' := 13) rfl (by decide) ((if0 _ _).trans (feq hc5_25).2)) X0 hx (H d7_13) (v := 0) rfl)
  refine own_fI (Q := Q7 Z a0 p1 h0 n0) Bd.notSynchronized hx Bd.returns pre0 X0 go27 (H d7_14) e0 (by decide) (by decide) ?_
  exact ⟨(0 : Int32), rfl, N0, rfl⟩

def dt5 : List (Nat × Instr × Nat) := [(0, .aload_n 0, 1), (1, .invokespecial 48, 3), (4, .aload_n 0, 1), (5, .iconst 4, 1), (6, .anewarray 16, 3), (9, .putfield 11, 3), (12, .aload_n 0, 1), (13, .iconst 4, 1), (14, .newarray .long, 2), (16, .dup, 1), (17, .iconst 0, 1), (18, .lconst 0, 1), (19, .lastore, 1), (20, .dup, 1), (21, .iconst 1, 1), (22, .ldc2_w 54, 3), (25, .lastore, 1), (26, .dup, 1), (27, .iconst 2, 1), (28, .lconst 0, 1), (29, .lastore, 1), (30, .dup, 1), (31, .iconst 3, 1), (32, .lconst 0, 1), (33, .lastore, 1), (34, .putfield 56, 3), (37, .aload_n 0, 1), (38, .aload_n 1, 1), (39, .invokevirtual 59, 3), (42, .checkcast 60, 3), (45, .putfield 65, 3), (48, .aload_n 0, 1), (49, .aload_n 1, 1), (50, .arraylength, 1), (51, .putfield 25, 3), (54, .aload_n 0, 1), (55, .aload_n 0, 1), (56, .getfield 25, 3), (59, .newarray .int, 2), (61, .putfield 68, 3), (64, .iconst 0, 1), (65, .istore_n 3, 1), (66, .iload_n 3, 1), (67, .aload_n 0, 1), (68, .getfield 25, 3), (71, .if_icmp .ge 28, 3), (74, .aload_n 0, 1), (75, .getfield 68, 3), (78, .iload_n 3, 1), (79, .bipush 31, 2), (81, .iconst 1, 1), (82, .aload_n 1, 1), (83, .iload_n 3, 1), (84, .iaload, 1), (85, .invokestatic 71, 3), (88, .invokestatic 74, 3), (91, .isub, 1), (92, .iastore, 1), (93, .iinc 3 1, 3), (96, .goto (-30), 3), (99, .aload_n 0, 1), (100, .iload_n 2, 1), (101, .putfield 78, 3), (104, .new 16, 3), (107, .dup, 1), (108, .aload_n 0, 1), (109, .new 81, 3), (112, .dup, 1), (113, .aload_n 0, 1), (114, .invokespecial 83, 3), (117, .invokespecial 86, 3), (120, .astore_n 3, 1), (121, .aload_n 3, 1), (122, .iconst 1, 1), (123, .putfield 36, 3), (126, .aload_n 0, 1), (127, .getfield 11, 3), (130, .aload_n 0, 1), (131, .dup, 1), (132, .getfield 89, 3), (135, .dup_x1, 1), (136, .iconst 1, 1), (137, .iadd, 1), (138, .putfield 89, 3), (141, .aload_n 3, 1), (142, .aastore, 1), (143, .aload_n 0, 1), (144, .aload_n 0, 1), (145, .getfield 11, 3), (148, .arraylength, 1), (149, .aload_n 0, 1), (150, .getfield 25, 3), (153, .imul, 1), (154, .newarray .long, 2), (156, .putfield 29, 3), (159, .return_, 1)]
theorem dk5 : ∀ x ∈ dt5, decode prog_99_method_4_code x.1 = .ok x.2 := by decide +kernel
theorem pn_5 : plainName "com/example/slackline/slackline/replay/Steps" = true := by first | (simp [plainName, overriddenIn]; done) | decide +kernel
theorem pd5_0 : parseMethodDescriptor "(II)I" = some ⟨[.int, .int], some .int⟩ := by decide +kernel
theorem pd5_1 : parseMethodDescriptor "(I)I" = some ⟨[.int], some .int⟩ := by decide +kernel
theorem pd5_2 : parseMethodDescriptor "(Lcom/example/slackline/slackline/replay/Steps;)V" = some ⟨[(.object "com/example/slackline/slackline/replay/Steps")], none⟩ := by decide +kernel
theorem pd5_3 : parseMethodDescriptor "(Lcom/example/slackline/slackline/replay/Steps;Lcom/example/slackline/slackline/replay/Steps$Block;)V" = some ⟨[(.object "com/example/slackline/slackline/replay/Steps"), (.object "com/example/slackline/slackline/replay/Steps$Block")], none⟩ := by decide +kernel
theorem ef_5 (m : MethodId) (x0 : Addr) (x1 : Addr) : entryFrame m #[(.ref x0), (.ref x1), (.int 4)] 4 = mkF m 0 #[vr x0, vr x1, vi 4, .unset] [] := by first | (simp [entryFrame, mkF, argsToLocals, Value.category]; done) | rfl
def Q5 (Z : State) (a0 : Array Value) (a1 : Addr) (a2 : Addr) (h0 : Heap) (n0 : Nat) (v : Option Value) (h : Heap) (L : List Loc) : Prop := v = none ∧ Fr n0 L ∧ KN n0 h0 h ∧ Inv Z a0 h n0 a1 (0 : Int)
set_option maxRecDepth 65536 in
set_option maxHeartbeats 40000000 in
theorem rm5 (l : Launch) (Z : State) (a0 : Array Value) (hw : ∀ d ∈ tables_1, d.before a0 Z = true) (ws : List Jvm.Cond) (a1 : Addr) (a2 : Addr) (h0 : Heap) (n0 : Nat) (Z0 : n0 ≤ h0.size) (F_chunks : FE Z a0 h0 a1 nSt "chunks" dCh .null) (F_firstTimes : FE Z a0 h0 a1 nSt "firstTimes" "[J" .null) (F_capacity : FE Z a0 h0 a1 nSt "capacity" "[I" .null) (F_kinds : FE Z a0 h0 a1 nSt "kinds" "I" (.int 0)) (F_tops : FE Z a0 h0 a1 nSt "tops" "[I" .null) (F_chunkSize : FE Z a0 h0 a1 nSt "chunkSize" "I" (.int 0)) (F_chunkCount : FE Z a0 h0 a1 nSt "chunkCount" "I" (.int 0)) (F_peaks : FE Z a0 h0 a1 nSt "peaks" "[J" .null) (F_lastFloor : FE Z a0 h0 a1 nSt "lastFloor" "I" (.int 0)) (F_splitChunk : FE Z a0 h0 a1 nSt "splitChunk" "I" (.int 0)) (F_splitStep : FE Z a0 h0 a1 nSt "splitStep" "I" (.int 0)) (L1 : LI Z h0 a2 (1 : Int32)) (E1 : Exa Z h0 a2 "[I") (g1 : n0 ≤ a1) :
    MetFree l y_21 (head1 (Jvm.Cond.code y_21 prog_99_method_4_code 4 none :: ws) ({ frames := 2, cells := 13, slots := 43, locals := 29 } : Room)) (fun a U => a = #[(.ref a1), (.ref a2), (.int 4)] ∧ Z.Warmed39 U.vm ∧ U.heap = h0) (fun _ _ _ _ _ => True) (fun _ U o U' => ∃ v L, o = .returned v ∧ Q5 Z a0 a1 a2 h0 n0 v U'.heap L ∧ FrameEnd U o U' L ({ frames := 2, cells := 13, slots := 43, locals := 29 } : Room).cells ({ frames := 2, cells := 13, slots := 43, locals := 29 } : Room).slots) := by
  refine MetFree.of_bodySF (plainFor_of_name pn_5) hisR ?_
  intro p e s m args below meth c s₁ Bd hml0 hP hK
  obtain ⟨rfl, hZ, hh⟩ := hP
  have hx := Bd.exec
  have hby := Bd.bytes
  have hml : c.maxLocals = 4 := hml0
  have hown : s.vm.findClass "com/example/slackline/slackline/replay/Steps" = some m.cls := findClass_of_methodNamed Bd.named
  have hnm := (name_of_methodNamed Bd.named Bd.method).1
  have X0 : Stand p l e ({ frames := 2, cells := 13, slots := 43, locals := 29 } : Room) s m #[(.ref a1), (.ref a2), (.int 4)] below meth c s₁ [] 0 0 := Stand.of_body Bd
  have e0 : s₁.heap = h0 := by rw [← hh, Bd.state]; rfl
  have N0 := Fr.nil n0
  have H : ∀ (k : Nat) {i : Nat} {r : Instr × Nat}, dt5[k]? = some (i, r) → decode c.code i = .ok r := fun _ i r q => hb hby (dk5 (i, r) (List.mem_of_getElem? q))
  have KN0 : KN n0 h0 h0 := KN.refl n0 h0
  obtain ⟨F0, hF0⟩ : ∃ F : JFrame, F = entryFrame m #[(.ref a1), (.ref a2), (.int 4)] 4 := ⟨_, rfl⟩
  have pre0 : ∀ t, Steps p.tables e below (s₁.setTop F0) t → Steps p.tables e below (s₁.setTop (entryFrame m #[(.ref a1), (.ref a2), (.int 4)] 4)) t := fun t k => hF0 ▸ k
  have go0 : Go p e below s₁ F0 s₁ (mkF m 0 #[vr a1, vr a2, vi 4, .unset] []) := fun t k => castTop (hF0.trans (ef_5 m a1 a2)) k
  have go1 := (s_aloadN go0 X0 hx (H 0 rfl) rfl rfl)
  obtain ⟨T2, X2, e2, go2⟩ := w_1 go1 (initO X0 hx hZ hown (own_w hw 45 rfl) (own_w hw 17 rfl) (own_w hw 18 rfl) e0 (g := mkF m _ _ _) rfl (by rw [hml]; rfl) rfl (H 1 rfl) (by decide) (W := 0) (by show 2 * 0 + _ ≤ _; exact Nat.le_of_eq rfl) (by decide))
  have go3 := (s_iconst (s_aloadN go2 X2 hx (H 2 rfl) rfl rfl) X2 hx (H 3 rfl) (v := 4) rfl)
  obtain ⟨T4, h4, k4, X4, e4, E4, A4, O4, go4⟩ := w_3b go3 (newR X2 hx hZ hown (own_w hw 46 rfl) (own_w hw 47 rfl) e2 (g := mkF m _ _ _) rfl (H 4 rfl) rfl (by decide) (cap := 4) (by decide) (by decide) (by decide) (by decide))
  obtain ⟨b4, gz4⟩ : ∃ z, z = h0.size := ⟨_, rfl⟩
  rw [← gz4] at A4 go4
  have l5 := Nat.lt_of_lt_of_le F_chunks.lt (Nat.le_of_eq gz4.symm)
  have l6 := Nat.lt_of_lt_of_le L1.lt (Nat.le_of_eq gz4.symm)
  have g_b4 := Nat.le_trans Z0 (Nat.le_of_eq gz4.symm)
  have sz_b4 := Nat.le_trans KN0.1 (Nat.le_of_eq gz4.symm)
  have P7 : Pres Z a0 _ _ _ := Pres.ext E4
  have KN7 := KN0.trans (KN.ext E4 Z0)
  have Z7 := Nat.le_trans Z0 P7.1
  have V4 : RA Z h4 b4 [.null, .null, .null, .null] := ⟨_, (Arv.new A4 (by decide)).pad (pad_rep [] .null 4), O4, rfl⟩
  have F8 := P7.fe F_chunks (nS rfl)
  obtain ⟨T9, h9, X9, e9, W9, go9⟩ := pF go4 X4 hx hZ hown (own_w hw 48 rfl) e4 F8 (Or.inl (own_w hw 49 rfl)) pf_11 rfl rfl (H 5 rfl)
  have Fw9 := F8.self W9
  have P10 : Pres Z a0 _ _ _ := Pres.fS F8 W9 (by decide)
  have KN10 := KN7.trans (KN.wr W9 g1)
  have Z10 := Nat.le_trans Z7 P10.1
  have N9 := Fr.snoc X9 N0 g1
  have go11 := (s_iconst (s_aloadN go9 X9 hx (H 6 rfl) rfl rfl) X9 hx (H 7 rfl) (v := 4) rfl)
  obtain ⟨T12, h12, k12, X12, e12, E12, A12, go12⟩ := w_3 go11 (newP X9 hx hZ (own_w hw 19 rfl) e9 (g := mkF m _ _ _) rfl (H 8 rfl) rfl (by decide) (cap := 4) (by decide) (by decide) (by decide) (by decide))
  obtain ⟨b12, gz12⟩ : ∃ z, z = h9.size := ⟨_, rfl⟩
  rw [← gz12] at A12 go12
  have l13 := Nat.lt_of_lt_of_le Fw9.lt (Nat.le_of_eq gz12.symm)
  have U14 := P7.trans P10
  have F15 := U14.li L1
  have l16 := Nat.lt_of_lt_of_le F15.lt (Nat.le_of_eq gz12.symm)
  have F17 := P10.ra V4 (nS rfl)
  have l18 := Nat.lt_of_lt_of_le F17.lt (Nat.le_of_eq gz12.symm)
  have g_b12 := Nat.le_trans Z10 (Nat.le_of_eq gz12.symm)
  have sz_b12 := Nat.le_trans KN10.1 (Nat.le_of_eq gz12.symm)
  have P19 : Pres Z a0 _ _ _ := Pres.ext E12
  have KN19 := KN10.trans (KN.ext E12 Z10)
  have Z19 := Nat.le_trans Z10 P19.1
  have V12 : LJ Z h12 b12 (4 : Int32) := LJ.of_arv (Arv.new A12 (by decide))
  have go20 := (s_lconst (s_iconst (s_dup go12 X12 hx (H 9 rfl) rfl) X12 hx (H 10 rfl) (v := 0) rfl) X12 hx (H 11 rfl) (v := 0) rfl)
  obtain ⟨T21, h21, X21, e21, W21, go21⟩ := sJ go20 X12 hx hZ e12 V12 ⟨by decide, by decide⟩ (H 12 rfl)
  have P22 : Pres Z a0 _ _ _ := Pres.wrJ V12 W21
  have KN22 := KN19.trans (KN.wr W21 g_b12)
  have Z22 := Nat.le_trans Z19 P22.1
  have N21 := Fr.snoc X21 N9 g_b12
  have F23 := P22.lj V12
  have go24 := (s_ldc2 (s_iconst (s_dup go21 X21 hx (H 13 rfl) rfl) X21 hx (H 14 rfl) (v := 1) rfl) X21 hx hown (mvT hZ (own_w hw 50 rfl)) (H 15 rfl))
  obtain ⟨T25, h25, X25, e25, W25, go25⟩ := sJ go24 X21 hx hZ e21 F23 ⟨by decide, by decide⟩ (H 16 rfl)
  have P26 : Pres Z a0 _ _ _ := Pres.wrJ F23 W25
  have KN26 := KN22.trans (KN.wr W25 g_b12)
  have Z26 := Nat.le_trans Z22 P26.1
  have N25 := Fr.snoc X25 N21 g_b12
  have F27 := P26.lj F23
  have go28 := (s_lconst (s_iconst (s_dup go25 X25 hx (H 17 rfl) rfl) X25 hx (H 18 rfl) (v := 2) rfl) X25 hx (H 19 rfl) (v := 0) rfl)
  obtain ⟨T29, h29, X29, e29, W29, go29⟩ := sJ go28 X25 hx hZ e25 F27 ⟨by decide, by decide⟩ (H 20 rfl)
  have P30 : Pres Z a0 _ _ _ := Pres.wrJ F27 W29
  have KN30 := KN26.trans (KN.wr W29 g_b12)
  have Z30 := Nat.le_trans Z26 P30.1
  have N29 := Fr.snoc X29 N25 g_b12
  have F31 := P30.lj F27
  have go32 := (s_lconst (s_iconst (s_dup go29 X29 hx (H 21 rfl) rfl) X29 hx (H 22 rfl) (v := 3) rfl) X29 hx (H 23 rfl) (v := 0) rfl)
  obtain ⟨T33, h33, X33, e33, W33, go33⟩ := sJ go32 X29 hx hZ e29 F31 ⟨by decide, by decide⟩ (H 24 rfl)
  have P34 : Pres Z a0 _ _ _ := Pres.wrJ F31 W33
  have KN34 := KN30.trans (KN.wr W33 g_b12)
  have Z34 := Nat.le_trans Z30 P34.1
  have N33 := Fr.snoc X33 N29 g_b12
  have U35 := P7.trans (P10.trans (P19.trans (P22.trans (P26.trans (P30.trans P34)))))
  have F36 := U35.fe F_firstTimes (nS rfl)
  obtain ⟨T37, h37, X37, e37, W37, go37⟩ := pF go33 X33 hx hZ hown (own_w hw 51 rfl) e33 F36 (Or.inl (own_w hw 52 rfl)) pf_5 rfl rfl (H 25 rfl)
  have Fw37 := F36.self W37
  have P38 : Pres Z a0 _ _ _ := Pres.fS F36 W37 (by decide)
  have KN38 := KN34.trans (KN.wr W37 g1)
  have Z38 := Nat.le_trans Z34 P38.1
  have N37 := Fr.snoc X37 N33 g1
  have U39 := P7.trans (P10.trans (P19.trans (P22.trans (P26.trans (P30.trans (P34.trans P38))))))
  have F40 := U39.ex E1
  have U41 := P19.trans (P22.trans (P26.trans (P30.trans (P34.trans P38))))
  have F42 := U41.li F15
  have go43 := (s_aloadN (s_aloadN go37 X37 hx (H 26 rfl) rfl rfl) X37 hx (H 27 rfl) rfl rfl)
  obtain ⟨T44, h44, X44, e44, E44, A44, Q44, go44⟩ := w_5 go43 (own_cloneI X37 hx hZ hown (own_w hw 53 rfl) (own_w hw 27 rfl) (own_w hw 31 rfl) (own_w hw 29 rfl) (own_w hw 30 rfl) (own_w hw 32 rfl) e37 F42 F40 (g := mkF m _ _ _) rfl (by rw [hml]; rfl) rfl (H 28 rfl) (by decide) (W := 1) (cap := 1) (by show 2 * 0 + _ ≤ _; exact Nat.le_of_eq rfl) (by decide) (by decide) (by decide) (by decide))
  obtain ⟨b44, gz44⟩ : ∃ z, z = h37.size := ⟨_, rfl⟩
  rw [← gz44] at A44 Q44 go44
  have F45 := U41.fe Fw9 (nS rfl)
  have l46 := Nat.lt_of_lt_of_le F45.lt (Nat.le_of_eq gz44.symm)
  have l47 := Nat.lt_of_lt_of_le F42.lt (Nat.le_of_eq gz44.symm)
  have F48 := U41.ra F17 (nS rfl)
  have l49 := Nat.lt_of_lt_of_le F48.lt (Nat.le_of_eq gz44.symm)
  have U50 := P34.trans P38
  have F51 := U50.lj F31
  have l52 := Nat.lt_of_lt_of_le F51.lt (Nat.le_of_eq gz44.symm)
  have g_b44 := Nat.le_trans Z38 (Nat.le_of_eq gz44.symm)
  have sz_b44 := Nat.le_trans KN38.1 (Nat.le_of_eq gz44.symm)
  have P53 : Pres Z a0 _ _ _ := Pres.ext E44
  have KN53 := KN38.trans (KN.ext E44 Z38)
  have Z53 := Nat.le_trans Z38 P53.1
  obtain ⟨T54, X54, e54, go54⟩ := w_1 go44 (castY X44 hx hZ hown (own_w hw 54 rfl) e44 (Ins.self Q44) (g := mkF m _ _ _) rfl rfl (H 29 rfl))
  have U55 := P7.trans (P10.trans (P19.trans (P22.trans (P26.trans (P30.trans (P34.trans (P38.trans P53)))))))
  have F56 := U55.fe F_capacity (nS rfl)
  obtain ⟨T57, h57, X57, e57, W57, go57⟩ := pF go54 X54 hx hZ hown (own_w hw 55 rfl) e54 F56 (Or.inr ⟨(own_w hw 56 rfl), rfl, hnm⟩) pf_6 rfl rfl (H 30 rfl)
  have Fw57 := F56.self W57
  have P58 : Pres Z a0 _ _ _ := Pres.fS F56 W57 (by decide)
  have KN58 := KN53.trans (KN.wr W57 g1)
  have Z58 := Nat.le_trans Z53 P58.1
  have N57 := Fr.snoc X57 N37 g1
  have U59 := P53.trans P58
  have F60 := U59.li F42
  have go61 := (s_aloadN (s_aloadN go57 X57 hx (H 31 rfl) rfl rfl) X57 hx (H 32 rfl) rfl rfl)
  obtain ⟨cl62, Ar62, Sz62, Nn62, -⟩ := id F60
  have U63 := P7.trans (P10.trans (P19.trans (P22.trans (P26.trans (P30.trans (P34.trans (P38.trans (P53.trans P58))))))))
  have F64 := U63.fe F_kinds (nS rfl)
  have go65 := (s_len go61 X57 hx hZ e57 Ar62 Sz62 Nn62 (H 33 rfl))
  obtain ⟨T66, h66, X66, e66, W66, go66⟩ := pF go65 X57 hx hZ hown (own_w hw 57 rfl) e57 F64 (Or.inr ⟨(own_w hw 58 rfl), rfl, hnm⟩) pf_0 rfl rfl (H 34 rfl)
  have Fw66 := F64.self W66
  have P67 : Pres Z a0 _ _ _ := Pres.fS F64 W66 (by decide)
  have KN67 := KN58.trans (KN.wr W66 g1)
  have Z67 := Nat.le_trans Z58 P67.1
  have N66 := Fr.snoc X66 N57 g1
  have go68 := (s_aloadN (s_aloadN go66 X66 hx (H 35 rfl) rfl rfl) X66 hx (H 36 rfl) rfl rfl)
  obtain ⟨T69, X69, e69, go69⟩ := gF go68 X66 hx hZ hown (own_w hw 57 rfl) e66 Fw66.2.1 (H 37 rfl)
  obtain ⟨T70, h70, k70, X70, e70, E70, A70, go70⟩ := w_3 go69 (newP X69 hx hZ (own_w hw 9 rfl) e69 (g := mkF m _ _ _) rfl (H 38 rfl) rfl (by decide) (cap := 1) (by decide) (by decide) (by decide) (by decide))
  obtain ⟨b70, gz70⟩ : ∃ z, z = h66.size := ⟨_, rfl⟩
  rw [← gz70] at A70 go70
  have U71 := P53.trans (P58.trans P67)
  have F72 := U71.fe F45 (nS rfl)
  have l73 := Nat.lt_of_lt_of_le F72.lt (Nat.le_of_eq gz70.symm)
  have F74 := P67.li F60
  have l75 := Nat.lt_of_lt_of_le F74.lt (Nat.le_of_eq gz70.symm)
  have F76 := U71.ra F48 (nS rfl)
  have l77 := Nat.lt_of_lt_of_le F76.lt (Nat.le_of_eq gz70.symm)
  have F78 := U71.lj F51
  have l79 := Nat.lt_of_lt_of_le F78.lt (Nat.le_of_eq gz70.symm)
  have U80 := P58.trans P67
  have F81 := U80.li A44
  have l82 := Nat.lt_of_lt_of_le F81.lt (Nat.le_of_eq gz70.symm)
  have g_b70 := Nat.le_trans Z67 (Nat.le_of_eq gz70.symm)
  have sz_b70 := Nat.le_trans KN67.1 (Nat.le_of_eq gz70.symm)
  have P83 : Pres Z a0 _ _ _ := Pres.ext E70
  have KN83 := KN67.trans (KN.ext E70 Z67)
  have Z83 := Nat.le_trans Z67 P83.1
  have V70 : LI Z h70 b70 (1 : Int32) := LI.of_arv (Arv.new A70 (by decide))
  have U84 := P7.trans (P10.trans (P19.trans (P22.trans (P26.trans (P30.trans (P34.trans (P38.trans (P53.trans (P58.trans (P67.trans P83))))))))))
  have F85 := U84.fe F_tops (nS rfl)
  obtain ⟨T86, h86, X86, e86, W86, go86⟩ := pF go70 X70 hx hZ hown (own_w hw 59 rfl) e70 F85 (Or.inr ⟨(own_w hw 60 rfl), rfl, hnm⟩) pf_6 rfl rfl (H 39 rfl)
  have Fw86 := F85.self W86
  have P87 : Pres Z a0 _ _ _ := Pres.fS F85 W86 (by decide)
  have KN87 := KN83.trans (KN.wr W86 g1)
  have Z87 := Nat.le_trans Z83 P87.1
  have N86 := Fr.snoc X86 N66 g1
  have U88 := P83.trans P87
  have F89 := U88.fe Fw66 (nS rfl)
  have go90 := (s_aloadN (s_iloadN (s_istoreN (s_iconst go86 X86 hx (H 40 rfl) (v := 0) rfl) X86 hx (H 41 rfl) (L' := #[vr a1, vr a2, vi 4, vi 0]) rfl) X86 hx (H 42 rfl) rfl) X86 hx (H 43 rfl) rfl rfl)
  obtain ⟨T91, X91, e91, go91⟩ := gF go90 X86 hx hZ hown (own_w hw 57 rfl) e86 F89.2.1 (H 44 rfl)
  have go92 := (s_aloadN (s_icmpNo go91 X91 hx (H 45 rfl) (tlt (by decide : (0 : Int32) < 1)).2.1) X91 hx (H 46 rfl) rfl rfl)
  obtain ⟨T93, X93, e93, go93⟩ := gF go92 X91 hx hZ hown (own_w hw 59 rfl) e91 Fw86.2.1 (H 47 rfl)
  have F94 := U88.li F74
  have go95 := (s_iloadN (s_aloadN (s_iconst (s_bipush (s_iloadN go93 X93 hx (H 48 rfl) rfl) X93 hx (H 49 rfl) (v := 31) rfl) X93 hx (H 50 rfl) (v := 1) rfl) X93 hx (H 51 rfl) rfl rfl) X93 hx (H 52 rfl) rfl)
  obtain ⟨x96, go96⟩ := lI go95 X93 hx hZ e93 F94 ⟨by decide, by decide⟩ (H 53 rfl)
  obtain ⟨_, _, ⟨T97, L97, k97, n97⟩, -, X97, ⟨Lc97, hQ97, l97, y97, z97⟩, g97⟩ := c_s go96 (Jvm.LawKit.callS X93 hx (y := y_2) hown (mvT hZ (own_w hw 61 rfl)) (mvT hZ (own_w hw 62 rfl)) (mvT hZ (own_w hw 4 rfl)) (mvT hZ (own_w hw 63 rfl)) (by decide) (backOf (W := 3) (rm6 l Z a0 hw [] (1 : Int32) x96 h86 n0 Z87 ) hZ (own_w hw 63 rfl) (own_w hw 4 rfl) (by decide) (by decide)) (g := mkF m _ _ _) rfl (by rw [hml]; rfl) (argsL := [(.int 1), (.int x96)]) (rest := [(.int 31), (.int 0), (.ref b70)]) (lenOf pd5_0 rfl) rfl (by show 2 * 0 + _ ≤ _; exact Nat.le_of_eq rfl) (H 54 rfl) (fun _ _ => ⟨rfl, e93, (by decide : 4 + 0 ≤ _), (by decide : 10 + 0 ≤ _)⟩))
  dsimp only [Pt.U, Pt.locs, Pt.cells, Pt.slots] at X97 l97 y97 z97 g97 hQ97
  subst l97 y97 z97
  obtain ⟨rfl, Nq97, eh97⟩ := hQ97
  have N97 := Fr.app N86 Nq97
  have go98 := cr g97
  obtain ⟨_, _, ⟨T99, L99, k99, n99⟩, -, X99, ⟨Lc99, hQ99, l99, y99, z99⟩, g99⟩ := c_s go98 (Jvm.LawKit.callS X97 hx (y := y_20) hown (mvT hZ (own_w hw 64 rfl)) (mvT hZ (own_w hw 65 rfl)) (mvT hZ (own_w hw 66 rfl)) (mvT hZ (own_w hw 67 rfl)) (by decide) (backOf (W := 3) (rm7 l Z a0 hw [] (f6 (1 : Int32) x96) h86 n0 Z87 ) hZ (own_w hw 67 rfl) (own_w hw 66 rfl) (by decide) (by decide)) (g := mkF m _ _ _) rfl (by rw [hml]; rfl) (argsL := [(.int (f6 (1 : Int32) x96))]) (rest := [(.int 31), (.int 0), (.ref b70)]) (lenOf pd5_1 rfl) rfl (by show 2 * 0 + _ ≤ _; exact Nat.le_of_eq rfl) (H 55 rfl) (fun _ _ => ⟨rfl, eh97, (by decide : 4 + 0 ≤ _), (by decide : 10 + 0 ≤ _)⟩))
  dsimp only [Pt.U, Pt.locs, Pt.cells, Pt.slots] at X99 l99 y99 z99 g99 hQ99
  subst l99 y99 z99
  obtain ⟨r_99, rfl, Nq99, eh99⟩ := hQ99
  have N99 := Fr.app N97 Nq99
  have go100 := cr g99
  have F101 := P87.li V70
  have go102 := (s_isub go100 X99 hx (H 56 rfl))
  obtain ⟨T103, h103, X103, e103, W103, go103⟩ := sI go102 X99 hx hZ eh99 F101 ⟨by decide, by decide⟩ (H 57 rfl)
  have P104 : Pres Z a0 _ _ _ := Pres.wrI F101 W103
  have KN104 := KN87.trans (KN.wr W103 g_b70)
  have Z104 := Nat.le_trans Z87 P104.1
  have N103 := Fr.snoc X103 N99 g_b70
  have F105 := P104.fe F89 (nS rfl)
  have go106 := (s_aloadN (s_iloadN (s_goto (s_iinc go103 X103 hx (H 58 rfl) rfl (L' := #[vr a1, vr a2, vi 4, vi 1]) rfl) X103 hx (H 59 rfl) (pc' := 66) rfl (by decide)) X103 hx (H 42 rfl) rfl) X103 hx (H 43 rfl) rfl rfl)
  obtain ⟨T107, X107, e107, go107⟩ := gF go106 X103 hx hZ hown (own_w hw 57 rfl) e103 F105.2.1 (H 44 rfl)
  have U108 := P7.trans (P10.trans (P19.trans (P22.trans (P26.trans (P30.trans (P34.trans (P38.trans (P53.trans (P58.trans (P67.trans (P83.trans (P87.trans P104))))))))))))
  have F109 := U108.fe F_chunkSize (nS rfl)
  have go110 := (s_iloadN (s_aloadN (s_icmpYes go107 X107 hx (H 45 rfl) (pc' := 99) rfl (by decide) (flt (by decide : ¬ ((1 : Int32) < 1))).2.1) X107 hx (H 60 rfl) rfl rfl) X107 hx (H 61 rfl) rfl)
  obtain ⟨T111, h111, X111, e111, W111, go111⟩ := pF go110 X107 hx hZ hown (own_w hw 69 rfl) e107 F109 (Or.inr ⟨(own_w hw 70 rfl), rfl, hnm⟩) pf_0 rfl rfl (H 62 rfl)
  have Fw111 := F109.self W111
  have P112 : Pres Z a0 _ _ _ := Pres.fS F109 W111 (by decide)
  have KN112 := KN104.trans (KN.wr W111 g1)
  have Z112 := Nat.le_trans Z104 P112.1
  have N111 := Fr.snoc X111 N103 g1
  obtain ⟨T113, h113, X113, e113, E113, A113, D113, -, go113⟩ := w_4 go111 (newO X111 hx hZ hown (own_w hw 46 rfl) (own_w hw 71 rfl) (own_w hw 72 rfl) e111 (g := mkF m _ _ _) rfl (H 63 rfl) (by decide) (by decide))
  obtain ⟨b113, gz113⟩ : ∃ z, z = h111.size := ⟨_, rfl⟩
  rw [← gz113] at A113 D113 go113
  have U114 := P83.trans (P87.trans (P104.trans P112))
  have F115 := U114.fe F72 (nS rfl)
  have l116 := Nat.lt_of_lt_of_le F115.lt (Nat.le_of_eq gz113.symm)
  have U117 := P104.trans P112
  have F118 := U117.li F94
  have l119 := Nat.lt_of_lt_of_le F118.lt (Nat.le_of_eq gz113.symm)
  have F120 := U114.ra F76 (nS rfl)
  have l121 := Nat.lt_of_lt_of_le F120.lt (Nat.le_of_eq gz113.symm)
  have F122 := U114.lj F78
  have l123 := Nat.lt_of_lt_of_le F122.lt (Nat.le_of_eq gz113.symm)
  have F124 := U114.li F81
  have l125 := Nat.lt_of_lt_of_le F124.lt (Nat.le_of_eq gz113.symm)
  have F126 := U117.li F101
  have l127 := Nat.lt_of_lt_of_le F126.lt (Nat.le_of_eq gz113.symm)
  have g_b113 := Nat.le_trans Z112 (Nat.le_of_eq gz113.symm)
  have sz_b113 := Nat.le_trans KN112.1 (Nat.le_of_eq gz113.symm)
  have P128 : Pres Z a0 _ _ _ := Pres.ext E113
  have KN128 := KN112.trans (KN.ext E113 Z112)
  have Z128 := Nat.le_trans Z112 P128.1
  have F129 := feN A113 D113 (Or.inr (own_w hw 91 rfl)) pf_3 (own_w hw 71 rfl) (v := .null) rfl
  have F130 := feN A113 D113 (Or.inr (own_w hw 95 rfl)) pf_5 (own_w hw 71 rfl) (v := .null) rfl
  have F131 := feN A113 D113 (Or.inr (own_w hw 98 rfl)) pf_5 (own_w hw 71 rfl) (v := .null) rfl
  have F132 := feN A113 D113 (Or.inr (own_w hw 100 rfl)) pf_5 (own_w hw 71 rfl) (v := .null) rfl
  have F133 := feN A113 D113 (Or.inr (own_w hw 102 rfl)) pf_6 (own_w hw 71 rfl) (v := .null) rfl
  have F134 := feN A113 D113 (Or.inr (own_w hw 105 rfl)) pf_4 (own_w hw 71 rfl) (v := .null) rfl
  have F135 := feN A113 D113 (Or.inl (own_w hw 107 rfl)) pf_7 (own_w hw 71 rfl) (v := .null) rfl
  have F136 := feN A113 D113 (Or.inl (own_w hw 113 rfl)) pf_0 (own_w hw 71 rfl) (v := (.int 0)) rfl
  have F137 := feN A113 D113 (Or.inl (own_w hw 254 rfl)) pf_1 (own_w hw 71 rfl) (v := (.long 0)) rfl
  have F138 := feN A113 D113 (Or.inl (own_w hw 262 rfl)) pf_2 (own_w hw 71 rfl) (v := (.int 0)) rfl
  have go139 := (s_aloadN (s_dup go113 X113 hx (H 64 rfl) rfl) X113 hx (H 65 rfl) rfl rfl)
  obtain ⟨T140, h140, X140, e140, E140, A140, D140, -, go140⟩ := w_4 go139 (newO X113 hx hZ hown (own_w hw 73 rfl) (own_w hw 74 rfl) (own_w hw 75 rfl) e113 (g := mkF m _ _ _) rfl (H 66 rfl) (by decide) (by decide))
  obtain ⟨b140, gz140⟩ : ∃ z, z = h113.size := ⟨_, rfl⟩
  rw [← gz140] at A140 D140 go140
  have F141 := P128.fe F115 (nS rfl)
  have l142 := Nat.lt_of_lt_of_le F141.lt (Nat.le_of_eq gz140.symm)
  have F143 := P128.li F118
  have l144 := Nat.lt_of_lt_of_le F143.lt (Nat.le_of_eq gz140.symm)
  have F145 := P128.ra F120 (nS rfl)
  have l146 := Nat.lt_of_lt_of_le F145.lt (Nat.le_of_eq gz140.symm)
  have F147 := P128.lj F122
  have l148 := Nat.lt_of_lt_of_le F147.lt (Nat.le_of_eq gz140.symm)
  have F149 := P128.li F124
  have l150 := Nat.lt_of_lt_of_le F149.lt (Nat.le_of_eq gz140.symm)
  have F151 := P128.li F126
  have l152 := Nat.lt_of_lt_of_le F151.lt (Nat.le_of_eq gz140.symm)
  have l153 := Nat.lt_of_lt_of_le F129.lt (Nat.le_of_eq gz140.symm)
  have g_b140 := Nat.le_trans Z128 (Nat.le_of_eq gz140.symm)
  have sz_b140 := Nat.le_trans KN128.1 (Nat.le_of_eq gz140.symm)
  have P154 : Pres Z a0 _ _ _ := Pres.ext E140
  have KN154 := KN128.trans (KN.ext E140 Z128)
  have Z154 := Nat.le_trans Z128 P154.1
  have F155 := feN A140 D140 (Or.inr (own_w hw 80 rfl)) pf_3 (own_w hw 74 rfl) (v := .null) rfl
  have F156 := feN A140 D140 (Or.inr (own_w hw 86 rfl)) pf_4 (own_w hw 74 rfl) (v := .null) rfl
  have F157 := feN A140 D140 (Or.inl (own_w hw 109 rfl)) pf_0 (own_w hw 74 rfl) (v := (.int 0)) rfl
  have F158 := feN A140 D140 (Or.inl (own_w hw 111 rfl)) pf_1 (own_w hw 74 rfl) (v := (.long 0)) rfl
  have U159 := P112.trans (P128.trans P154)
  have F160 := U159.fe F105 (nS rfl)
  have go161 := (s_aloadN (s_dup go140 X140 hx (H 67 rfl) rfl) X140 hx (H 68 rfl) rfl rfl)
  obtain ⟨_, _, ⟨T162, L162, k162, n162⟩, -, X162, ⟨Lc162, hQ162, l162, y162, z162⟩, g162⟩ := c_b go161 (own_specialRef X140 hx hZ (y := y_10) rfl hown (own_w hw 76 rfl) (mvT hZ (own_w hw 77 rfl)) (mvT hZ (own_w hw 78 rfl)) (by decide) (backOf (W := 4) (rm8 l Z a0 hw [] b140 a1 h140 n0 Z154 F155 F156 F160 g_b140) hZ (own_w hw 78 rfl) (own_w hw 75 rfl) (by decide) (by decide)) (g := mkF m _ _ _) rfl (by rw [hml]; rfl) (Steps.refl _) (a := b140) (argsL := [(.ref a1)]) (rest := [(.ref b140), (.ref a1), (.ref b113), (.ref b113)]) (lenOf pd5_2 rfl) rfl (by show 2 * 0 + _ ≤ _; exact Nat.le_of_eq rfl) (H 69 rfl) (fun _ _ => ⟨rfl, e140, (by decide : 6 + 1 ≤ _), (by decide : 24 + 1 ≤ _)⟩))
  dsimp only [Pt.U, Pt.locs, Pt.cells, Pt.slots] at X162 l162 y162 z162 g162 hQ162
  subst l162 y162 z162
  obtain ⟨rfl, Nq162, Kn162, Pq162⟩ := hQ162
  have N162 := Fr.app N111 Nq162
  have KN163 := KN154.trans Kn162
  have Z163 := Nat.le_trans Z154 Pq162.1
  have go164 := cv g162
  have U165 := P154.trans Pq162
  have F166 := U165.fe F129 (ninA (Nat.ne_of_lt l153) (ninF (by decide) ninP0))
  have F167 := U165.fe F130 (nS rfl)
  have F168 := U165.fe F131 (nS rfl)
  have F169 := U165.fe F132 (nS rfl)
  have F170 := U165.fe F133 (nS rfl)
  have F171 := U165.fe F134 (ninF (by decide) (ninA (Nat.ne_of_lt l153) ninP0))
  have F172 := U165.fe F135 (nS rfl)
  have F173 := Pq162.fe F160 (nS rfl)
  have U174 := P128.trans (P154.trans Pq162)
  have F175 := U174.fe Fw111 (nS rfl)
  have F176 := Pq162.fe F157 (nS rfl)
  have F177 := Pq162.fe F158 (nS rfl)
  obtain ⟨_, _, ⟨T178, L178, k178, n178⟩, -, X178, ⟨Lc178, hQ178, l178, y178, z178⟩, g178⟩ := c_b go164 (X162.specialBack hx (y := y_11) rfl hown (mvT hZ (own_w hw 87 rfl)) (mvT hZ (own_w hw 88 rfl)) (mvT hZ (own_w hw 89 rfl)) (by decide) (backOf (W := 1) (rm9 l Z a0 hw [] b113 a1 b140 (0 : Int32) (0 : Int64) (T162.heap) n0 Z163 F166 F167 F168 F169 F170 F171 F172 F173 F175 F176 F177 g_b113 g_b140) hZ (own_w hw 89 rfl) (own_w hw 72 rfl) (by decide) (by decide)) (g := mkF m _ _ _) rfl (by rw [hml]; rfl) (Steps.refl _) (a := b113) (argsL := [(.ref a1), (.ref b140)]) (rest := [(.ref b113)]) (lenOf pd5_3 rfl) rfl (by show 2 * 0 + _ ≤ _; exact Nat.le_of_eq rfl) (H 70 rfl) (fun _ _ => ⟨rfl, rfl, (by decide : 7 + 5 ≤ _), (by decide : 25 + 14 ≤ _)⟩))
  dsimp only [Pt.U, Pt.locs, Pt.cells, Pt.slots] at X178 l178 y178 z178 g178 hQ178
  subst l178 y178 z178
  obtain ⟨t_178, u_178, s_178, f_178, bv2_178, rfl, Nq178, Kn178, Pq178, F1_178, L1_178, F2_178, L2_178, F3_178, L3_178, F4_178, L4_178, F5_178, F6_178, F7_178, g1_178, g2_178, g3_178, g4_178⟩ := hQ178
  have N178 := Fr.app N162 Nq178
  have KN179 := KN163.trans Kn178
  have Z179 := Nat.le_trans Z163 Pq178.1
  have go180 := cv g178
  have U181 := P154.trans (Pq162.trans Pq178)
  have F182 := U181.fe F136 (nS rfl)
  have go183 := (s_iconst (s_aloadN (s_astoreN go180 X178 hx (H 71 rfl) rfl (L' := #[vr a1, vr a2, vi 4, vr b113]) rfl) X178 hx (H 72 rfl) rfl rfl) X178 hx (H 73 rfl) (v := 1) rfl)
  obtain ⟨T184, h184, X184, e184, W184, go184⟩ := pF go183 X178 hx hZ hown (own_w hw 112 rfl) rfl F182 (Or.inl (own_w hw 113 rfl)) pf_0 rfl rfl (H 74 rfl)
  have Fw184 := F182.self W184
  have P185 : Pres Z a0 _ _ _ := Pres.fIx (by decide) F182 W184 (by decide)
  have KN185 := KN179.trans (KN.wr W184 g_b113)
  have Z185 := Nat.le_trans Z179 P185.1
  have N184 := Fr.snoc X184 N178 g_b113
  have U186 := P154.trans (Pq162.trans (Pq178.trans P185))
  have F187 := U186.fe F141 (nS rfl)
  have go188 := (s_aloadN go184 X184 hx (H 75 rfl) rfl rfl)
  obtain ⟨T189, X189, e189, go189⟩ := gF go188 X184 hx hZ hown (own_w hw 48 rfl) e184 F187.2.1 (H 76 rfl)
  have U190 := P7.trans (P10.trans (P19.trans (P22.trans (P26.trans (P30.trans (P34.trans (P38.trans (P53.trans (P58.trans (P67.trans (P83.trans (P87.trans (P104.trans (P112.trans (P128.trans (P154.trans (Pq162.trans (Pq178.trans P185))))))))))))))))))
  have F191 := U190.fe F_chunkCount (nS rfl)
  have go192 := (s_dup (s_aloadN go189 X189 hx (H 77 rfl) rfl rfl) X189 hx (H 78 rfl) rfl)
  obtain ⟨T193, X193, e193, go193⟩ := gF go192 X189 hx hZ hown (own_w hw 114 rfl) e189 F191.2.1 (H 79 rfl)
  have go194 := (s_iaddE (s_iconst (s_dupX1 go193 X193 hx (H 80 rfl) rfl rfl) X193 hx (H 81 rfl) (v := 1) rfl) X193 hx (H 82 rfl) (v := 1) rfl)
  obtain ⟨T195, h195, X195, e195, W195, go195⟩ := pF go194 X193 hx hZ hown (own_w hw 114 rfl) e193 F191 (Or.inl (own_w hw 115 rfl)) pf_0 rfl rfl (H 83 rfl)
  have Fw195 := F191.self W195
  have P196 : Pres Z a0 _ _ _ := Pres.fIx (by decide) F191 W195 (by decide)
  have KN196 := KN185.trans (KN.wr W195 g1)
  have Z196 := Nat.le_trans Z185 P196.1
  have N195 := Fr.snoc X195 N184 g1
  have U197 := P154.trans (Pq162.trans (Pq178.trans (P185.trans P196)))
  have F198 := U197.ra F145 (nS rfl)
  have F199 := P196.ex Fw184.1
  have go200 := (s_aloadN go195 X195 hx (H 84 rfl) rfl rfl)
  obtain ⟨T201, h201, X201, e201, W201, Ra201, Pr201, st201⟩ := aastR (a0 := a0) X195 hx hZ e195 (j := (0 : Int32)) F198 ⟨by decide, by decide⟩ F199 (pc := 142) (Ls := #[vr a1, vr a2, vi 4, vr b113]) (rest := []) (H 85 rfl)
  have KN202 := KN196.trans (KN.wr W201 g_b4)
  have Z202 := Nat.le_trans Z196 Pr201.1
  have N201 := Fr.snoc X201 N195 g_b4
  have go203 := glm go200 st201
  have U204 := P196.trans Pr201
  have F205 := U204.fe F187 (nS rfl)
  have go206 := (s_aloadN (s_aloadN go203 X201 hx (H 86 rfl) rfl rfl) X201 hx (H 87 rfl) rfl rfl)
  obtain ⟨T207, X207, e207, go207⟩ := gF go206 X201 hx hZ hown (own_w hw 48 rfl) e201 F205.2.1 (H 88 rfl)
  obtain ⟨cl208, Ar208, Sz208⟩ := RA.arl Ra201
  have U209 := Pq178.trans (P185.trans (P196.trans Pr201))
  have F210 := U209.fe F173 (nS rfl)
  have go211 := (s_aloadN (s_len go207 X207 hx hZ e207 Ar208 Sz208 (by decide) (H 89 rfl)) X207 hx (H 90 rfl) rfl rfl)
  obtain ⟨T212, X212, e212, go212⟩ := gF go211 X207 hx hZ hown (own_w hw 57 rfl) e207 F210.2.1 (H 91 rfl)
  have go213 := (s_imulE go212 X212 hx (H 92 rfl) (v := 4) rfl)
  obtain ⟨T214, h214, k214, X214, e214, E214, A214, go214⟩ := w_3 go213 (newP X212 hx hZ (own_w hw 19 rfl) e212 (g := mkF m _ _ _) rfl (H 93 rfl) rfl (by decide) (cap := 4) (by decide) (by decide) (by decide) (by decide))
  obtain ⟨b214, gz214⟩ : ∃ z, z = h201.size := ⟨_, rfl⟩
  rw [← gz214] at A214 go214
  have l215 := Nat.lt_of_lt_of_le F205.lt (Nat.le_of_eq gz214.symm)
  have U216 := P154.trans (Pq162.trans (Pq178.trans (P185.trans (P196.trans Pr201))))
  have F217 := U216.li F143
  have l218 := Nat.lt_of_lt_of_le F217.lt (Nat.le_of_eq gz214.symm)
  have l219 := Nat.lt_of_lt_of_le Ra201.lt (Nat.le_of_eq gz214.symm)
  have F220 := U216.lj F147
  have l221 := Nat.lt_of_lt_of_le F220.lt (Nat.le_of_eq gz214.symm)
  have F222 := U216.li F149
  have l223 := Nat.lt_of_lt_of_le F222.lt (Nat.le_of_eq gz214.symm)
  have F224 := U216.li F151
  have l225 := Nat.lt_of_lt_of_le F224.lt (Nat.le_of_eq gz214.symm)
  have U226 := P185.trans (P196.trans Pr201)
  have F227 := U226.fe F1_178 (nS rfl)
  have l228 := Nat.lt_of_lt_of_le F227.lt (Nat.le_of_eq gz214.symm)
  have U229 := Pq162.trans (Pq178.trans (P185.trans (P196.trans Pr201)))
  have F230 := U226.fe F6_178 (nS rfl)
  have l231 := Nat.lt_of_lt_of_le F230.lt (Nat.le_of_eq gz214.symm)
  have g_b214 := Nat.le_trans Z202 (Nat.le_of_eq gz214.symm)
  have sz_b214 := Nat.le_trans KN202.1 (Nat.le_of_eq gz214.symm)
  have P232 : Pres Z a0 _ _ _ := Pres.ext E214
  have KN232 := KN202.trans (KN.ext E214 Z202)
  have Z232 := Nat.le_trans Z202 P232.1
  have V214 : LJ Z h214 b214 (4 : Int32) := LJ.of_arv (Arv.new A214 (by decide))
  have U233 := P7.trans (P10.trans (P19.trans (P22.trans (P26.trans (P30.trans (P34.trans (P38.trans (P53.trans (P58.trans (P67.trans (P83.trans (P87.trans (P104.trans (P112.trans (P128.trans (P154.trans (Pq162.trans (Pq178.trans (P185.trans (P196.trans (Pr201.trans P232)))))))))))))))))))))
  have F234 := U233.fe F_peaks (nS rfl)
  obtain ⟨T235, h235, X235, e235, W235, go235⟩ := pF go214 X214 hx hZ hown (own_w hw 117 rfl) e214 F234 (Or.inl (own_w hw 118 rfl)) pf_5 rfl rfl (H 94 rfl)
  have Fw235 := F234.self W235
  have P236 : Pres Z a0 _ _ _ := Pres.fS F234 W235 (by decide)
  have KN236 := KN232.trans (KN.wr W235 g1)
  have Z236 := Nat.le_trans Z232 P236.1
  have N235 := Fr.snoc X235 N201 g1
  refine own_f0 (Q := Q5 Z a0 a1 a2 h0 n0) Bd.notSynchronized hx Bd.returns pre0 X235 go235 (H 95 rfl) e235 (by decide) (by decide) ?_
  have U237 := P232.trans P236
  have F238 := U237.fe F227 (nS rfl)
  have U239 := P185.trans (P196.trans (Pr201.trans (P232.trans P236)))
  have F240 := U239.fe F2_178 (nS rfl)
  have F241 := U239.fe F3_178 (nS rfl)
  have F242 := U239.fe F4_178 (nS rfl)
  have F243 := U239.fe F5_178 (nS rfl)
  have U244 := P196.trans (Pr201.trans (P232.trans P236))
  have F245 := U244.fe Fw184 (nS rfl)
  have U246 := P154.trans (Pq162.trans (Pq178.trans (P185.trans (P196.trans (Pr201.trans (P232.trans P236))))))
  have F247 := U246.fe F137 (ninF (by decide) (ninF (by decide) (ninF (by decide) (ninF (by decide) (ninF (by decide) (ninF (by decide) (ninF (by decide) (ninF (by decide) (ninF (by decide) (ninF (by decide) (ninA (Nat.ne_of_lt l153) (ninF (by decide) (ninF (by decide) (ninF (by decide) (ninF (by decide) ninP0)))))))))))))))
  have F248 := U246.fe F138 (nS rfl)
  have F249 := U239.lj L1_178
  have F250 := U239.lj L2_178
  have F251 := U239.lj L3_178
  have F252 := U239.li L4_178
  have U253 := Pq178.trans (P185.trans (P196.trans (Pr201.trans (P232.trans P236))))
  have F254 := U253.fe F175 (nS rfl)
  have F255 := U237.fe F210 (nS rfl)
  have F256 := U237.fe F205 (nS rfl)
  have U257 := P53.trans (P58.trans (P67.trans (P83.trans (P87.trans (P104.trans (P112.trans (P128.trans (P154.trans (Pq162.trans (Pq178.trans (P185.trans (P196.trans (Pr201.trans (P232.trans P236))))))))))))))
  have F258 := U257.fe Fw37 (nS rfl)
  have U259 := Pr201.trans (P232.trans P236)
  have F260 := U259.fe Fw195 (nS rfl)
  have U261 := P7.trans (P10.trans (P19.trans (P22.trans (P26.trans (P30.trans (P34.trans (P38.trans (P53.trans (P58.trans (P67.trans (P83.trans (P87.trans (P104.trans (P112.trans (P128.trans (P154.trans (Pq162.trans (Pq178.trans (P185.trans (P196.trans (Pr201.trans (P232.trans P236))))))))))))))))))))))
  have F262 := U261.fe F_lastFloor (nS rfl)
  have F263 := U261.fe F_splitChunk (nS rfl)
  have F264 := U261.fe F_splitStep (nS rfl)
  have F265 := U237.ra Ra201 (nS rfl)
  have F266 := U237.fe F230 (nS rfl)
  have F267 := U239.fe F7_178 (nS rfl)
  have F268 := U237.lj F220
  have F269 := P236.lj V214
  exact ⟨rfl, N235, KN236, ⟨b140, b4, b12, b214, ([.null, .null, .null, .null].set ((0 : Int32)).toNatClampNeg (.ref b113)), (1 : Int32), (0 : Int32), (0 : Int32), (0 : Int32), bv2_178, 1, ⟨g1, g_b140, g_b4, g_b12, g_b214⟩, F254, F255, F256, F258, Fw235, F260, F262, F263, F264, ⟨(by have q_ := nl0; omega), (by have q_ := nl0; omega), (by have q_ := nl0; omega)⟩, F268, F269, F265, (CC.one (c := b113) rfl (⟨g_b113, t_178, u_178, s_178, f_178, (1 : Int32), (0 : Int32), (0 : Int64), ⟨g1_178, g2_178, g3_178, g4_178⟩, F238, F249, F240, F250, F241, F251, F242, F252, F243, F245, (by decide), F247, F248⟩)), F266, F267, (Or.inl ⟨rfl, by decide⟩)⟩⟩

def dt10 : List (Nat × Instr × Nat) := [(0, .aload_n 0, 1), (1, .invokespecial 1, 3), (4, .aload_n 0, 1), (5, .bipush 32, 2), (7, .newarray .long, 2), (9, .putfield 9, 3), (12, .aload_n 0, 1), (13, .bipush 32, 2), (15, .newarray .int, 2), (17, .putfield 13, 3), (20, .aload_n 0, 1), (21, .bipush 32, 2), (23, .newarray .int, 2), (25, .putfield 17, 3), (28, .aload_n 0, 1), (29, .bipush 32, 2), (31, .newarray .long, 2), (33, .putfield 20, 3), (36, .aload_n 0, 1), (37, .bipush 32, 2), (39, .newarray .int, 2), (41, .putfield 23, 3), (44, .aload_n 0, 1), (45, .iload_n 1, 1), (46, .putfield 26, 3), (49, .aload_n 0, 1), (50, .bipush 32, 2), (52, .iload_n 1, 1), (53, .imul, 1), (54, .newarray .long, 2), (56, .putfield 30, 3), (59, .aload_n 0, 1), (60, .iconst 1, 1), (61, .putfield 33, 3), (64, .return_, 1)]
theorem dk10 : ∀ x ∈ dt10, decode prog_84_method_1_code x.1 = .ok x.2 := by decide +kernel
theorem pn_10 : plainName "com/example/slackline/slackline/replay/DraftSteps" = true := by first | (simp [plainName, overriddenIn]; done) | decide +kernel
theorem ef_10 (m : MethodId) (x0 : Addr) : entryFrame m #[(.ref x0), (.int 1)] 2 = mkF m 0 #[vr x0, vi 1] [] := by first | (simp [entryFrame, mkF, argsToLocals, Value.category]; done) | rfl
def Q10 (Z : State) (a0 : Array Value) (a1 : Addr) (h0 : Heap) (n0 : Nat) (v : Option Value) (h : Heap) (L : List Loc) : Prop := v = none ∧ Fr n0 L ∧ Keep h0 h [a1]
set_option maxRecDepth 65536 in
set_option maxHeartbeats 40000000 in
theorem rm10 (l : Launch) (Z : State) (a0 : Array Value) (hw : ∀ d ∈ tables_1, d.before a0 Z = true) (ws : List Jvm.Cond) (a1 : Addr) (h0 : Heap) (n0 : Nat) (Z0 : n0 ≤ h0.size) (E0 : Exa Z h0 a1 c_6) (F_changeTimes : Fld Z h0 a1 c_6 "changeTimes" "[J" .null) (F_stepOf : Fld Z h0 a1 c_6 "stepOf" "[I" .null) (F_inOrder : Fld Z h0 a1 c_6 "inOrder" "[I" .null) (F_time : Fld Z h0 a1 c_6 "time" "[J" .null) (F_finishing : Fld Z h0 a1 c_6 "finishing" "[I" .null) (F_kinds : Fld Z h0 a1 c_6 "kinds" "I" (.int 0)) (F_units : Fld Z h0 a1 c_6 "units" "[J" .null) (F_size : Fld Z h0 a1 c_6 "size" "I" (.int 0)) (g1 : n0 ≤ a1) :
    MetFree l y_22 (head1 (Jvm.Cond.code y_22 prog_84_method_1_code 2 none :: ws) ({ frames := 1, cells := 6, slots := 192, locals := 12 } : Room)) (fun a U => a = #[(.ref a1), (.int 1)] ∧ Z.Warmed39 U.vm ∧ U.heap = h0) (fun _ _ _ _ _ => True) (fun _ U o U' => ∃ v L, o = .returned v ∧ Q10 Z a0 a1 h0 n0 v U'.heap L ∧ FrameEnd U o U' L ({ frames := 1, cells := 6, slots := 192, locals := 12 } : Room).cells ({ frames := 1, cells := 6, slots := 192, locals := 12 } : Room).slots) := by
  refine MetFree.of_bodySF (plainFor_of_name pn_10) hisR ?_
  intro p e s m args below meth c s₁ Bd hml0 hP hK
  obtain ⟨rfl, hZ, hh⟩ := hP
  have hx := Bd.exec
  have hby := Bd.bytes
  have hml : c.maxLocals = 2 := hml0
  have hown : s.vm.findClass "com/example/slackline/slackline/replay/DraftSteps" = some m.cls := findClass_of_methodNamed Bd.named
  have hnm := (name_of_methodNamed Bd.named Bd.method).1
  have X0 : Stand p l e ({ frames := 1, cells := 6, slots := 192, locals := 12 } : Room) s m #[(.ref a1), (.int 1)] below meth c s₁ [] 0 0 := Stand.of_body Bd
  have e0 : s₁.heap = h0 := by rw [← hh, Bd.state]; rfl
  have N0 := Fr.nil n0
  have H : ∀ (k : Nat) {i : Nat} {r : Instr × Nat}, dt10[k]? = some (i, r) → decode c.code i = .ok r := fun _ i r q => hb hby (dk10 (i, r) (List.mem_of_getElem? q))
  have K0 : Keep h0 h0 [a1] := Keep.refl h0 [a1]
  obtain ⟨F0, hF0⟩ : ∃ F : JFrame, F = entryFrame m #[(.ref a1), (.int 1)] 2 := ⟨_, rfl⟩
  have pre0 : ∀ t, Steps p.tables e below (s₁.setTop F0) t → Steps p.tables e below (s₁.setTop (entryFrame m #[(.ref a1), (.int 1)] 2)) t := fun t k => hF0 ▸ k
  have go0 : Go p e below s₁ F0 s₁ (mkF m 0 #[vr a1, vi 1] []) := fun t k => castTop (hF0.trans (ef_10 m a1)) k
  have go1 := (s_aloadN go0 X0 hx (H 0 rfl) rfl rfl)
  obtain ⟨T2, X2, e2, go2⟩ := w_1 go1 (initO X0 hx hZ hown (own_w hw 127 rfl) (own_w hw 17 rfl) (own_w hw 18 rfl) e0 (g := mkF m _ _ _) rfl (by rw [hml]; rfl) rfl (H 1 rfl) (by decide) (W := 0) (by show 2 * 0 + _ ≤ _; exact Nat.le_of_eq rfl) (by decide))
  have go3 := (s_bipush (s_aloadN go2 X2 hx (H 2 rfl) rfl rfl) X2 hx (H 3 rfl) (v := 32) rfl)
  obtain ⟨T4, h4, k4, X4, e4, E4, A4, go4⟩ := w_3 go3 (newP X2 hx hZ (own_w hw 19 rfl) e2 (g := mkF m _ _ _) rfl (H 4 rfl) rfl (by decide) (cap := 32) (by decide) (by decide) (by decide) (by decide))
  obtain ⟨b4, gz4⟩ : ∃ z, z = h0.size := ⟨_, rfl⟩
  rw [← gz4] at A4 go4
  have l5 := Nat.lt_of_lt_of_le E0.lt (Nat.le_of_eq gz4.symm)
  have g_b4 := Nat.le_trans Z0 (Nat.le_of_eq gz4.symm)
  have sz_b4 := Nat.le_trans K0.1 (Nat.le_of_eq gz4.symm)
  have K6 : Keep h0 h4 [a1] := K0.ext E4
  have Z6 : n0 ≤ h4.size := Nat.le_trans Z0 E4.1
  have V4 : Arv Z h4 b4 k4 .long (32 : Int32) (own_zl 32) (.long 0) := (Arv.new A4 (by decide)).pad (pad_rep [] (.long 0) 32)
  have F7 := E0.ext E4
  have F8 := F_changeTimes.ext E4
  obtain ⟨T9, h9, X9, e9, W9, go9⟩ := w_2 go4 (putF X4 hx hZ hown (host := "") (Or.inl (own_w hw 128 rfl)) Via.refl e4 F8 F7 (Or.inl (own_w hw 129 rfl)) (own_w hw 122 rfl) (ty := (.array .long)) (by decide) rfl rfl (g := mkF m _ _ _) rfl rfl (H 5 rfl))
  have Fw9 : Fld Z h9 a1 c_6 "changeTimes" "[J" (.ref b4) := Fld.same W9 F8
  have K10 : Keep h0 h9 [a1] := K6.wr W9 (Or.inl (List.mem_of_getElem? (i := 0) rfl))
  have Z10 : n0 ≤ h9.size := Nat.le_trans Z6 (Keep.of_wr W9).1
  have N9 := Fr.snoc X9 N0 g1
  have go11 := (s_bipush (s_aloadN go9 X9 hx (H 6 rfl) rfl rfl) X9 hx (H 7 rfl) (v := 32) rfl)
  obtain ⟨T12, h12, k12, X12, e12, E12, A12, go12⟩ := w_3 go11 (newP X9 hx hZ (own_w hw 9 rfl) e9 (g := mkF m _ _ _) rfl (H 8 rfl) rfl (by decide) (cap := 32) (by decide) (by decide) (by decide) (by decide))
  obtain ⟨b12, gz12⟩ : ∃ z, z = h9.size := ⟨_, rfl⟩
  rw [← gz12] at A12 go12
  have F13 := F7.wr W9
  have l14 := Nat.lt_of_lt_of_le F13.lt (Nat.le_of_eq gz12.symm)
  have F15 := V4.other W9 (Ne.symm (Nat.ne_of_lt l5))
  have l16 := Nat.lt_of_lt_of_le F15.lt (Nat.le_of_eq gz12.symm)
  have g_b12 := Nat.le_trans Z10 (Nat.le_of_eq gz12.symm)
  have sz_b12 := Nat.le_trans K10.1 (Nat.le_of_eq gz12.symm)
  have K17 : Keep h0 h12 [a1] := K10.ext E12
  have Z17 : n0 ≤ h12.size := Nat.le_trans Z10 E12.1
  have V12 : Arv Z h12 b12 k12 .int (32 : Int32) (own_zi 32) (.int 0) := (Arv.new A12 (by decide)).pad (pad_rep [] (.int 0) 32)
  have F18 := F13.ext E12
  have F19 := ((F_stepOf.ext E4).other W9 (Or.inr (slot_ne (Or.inl (own_w hw 131 rfl)) (Or.inl (own_w hw 129 rfl)) (by decide) (t := (.array .int)) (t' := (.array .long)) (by decide) (by decide)))).ext E12
  obtain ⟨T20, h20, X20, e20, W20, go20⟩ := w_2 go12 (putF X12 hx hZ hown (host := "") (Or.inl (own_w hw 130 rfl)) Via.refl e12 F19 F18 (Or.inl (own_w hw 131 rfl)) (own_w hw 122 rfl) (ty := (.array .int)) (by decide) rfl rfl (g := mkF m _ _ _) rfl rfl (H 9 rfl))
  have Fw20 : Fld Z h20 a1 c_6 "stepOf" "[I" (.ref b12) := Fld.same W20 F19
  have K21 : Keep h0 h20 [a1] := K17.wr W20 (Or.inl (List.mem_of_getElem? (i := 0) rfl))
  have Z21 : n0 ≤ h20.size := Nat.le_trans Z17 (Keep.of_wr W20).1
  have N20 := Fr.snoc X20 N9 g1
  have go22 := (s_bipush (s_aloadN go20 X20 hx (H 10 rfl) rfl rfl) X20 hx (H 11 rfl) (v := 32) rfl)
  obtain ⟨T23, h23, k23, X23, e23, E23, A23, go23⟩ := w_3 go22 (newP X20 hx hZ (own_w hw 9 rfl) e20 (g := mkF m _ _ _) rfl (H 12 rfl) rfl (by decide) (cap := 32) (by decide) (by decide) (by decide) (by decide))
  obtain ⟨b23, gz23⟩ : ∃ z, z = h20.size := ⟨_, rfl⟩
  rw [← gz23] at A23 go23
  have F24 := F18.wr W20
  have l25 := Nat.lt_of_lt_of_le F24.lt (Nat.le_of_eq gz23.symm)
  have F26 := (F15.ext E12).other W20 (Ne.symm (Nat.ne_of_lt l5))
  have l27 := Nat.lt_of_lt_of_le F26.lt (Nat.le_of_eq gz23.symm)
  have F28 := V12.other W20 (Ne.symm (Nat.ne_of_lt l14))
  have l29 := Nat.lt_of_lt_of_le F28.lt (Nat.le_of_eq gz23.symm)
  have g_b23 := Nat.le_trans Z21 (Nat.le_of_eq gz23.symm)
  have sz_b23 := Nat.le_trans K21.1 (Nat.le_of_eq gz23.symm)
  have K30 : Keep h0 h23 [a1] := K21.ext E23
  have Z30 : n0 ≤ h23.size := Nat.le_trans Z21 E23.1
  have V23 : Arv Z h23 b23 k23 .int (32 : Int32) (own_zi 32) (.int 0) := (Arv.new A23 (by decide)).pad (pad_rep [] (.int 0) 32)
  have F31 := F24.ext E23
  have F32 := ((((F_inOrder.ext E4).other W9 (Or.inr (slot_ne (Or.inr (own_w hw 133 rfl)) (Or.inl (own_w hw 129 rfl)) (by decide) (t := (.array .int)) (t' := (.array .long)) (by decide) (by decide)))).ext E12).other W20 (Or.inr (slot_ne (Or.inr (own_w hw 133 rfl)) (Or.inl (own_w hw 131 rfl)) (by decide) (t := (.array .int)) (t' := (.array .int)) (by decide) (by decide)))).ext E23
  obtain ⟨T33, h33, X33, e33, W33, go33⟩ := w_2 go23 (putF X23 hx hZ hown (host := "") (Or.inl (own_w hw 132 rfl)) Via.refl e23 F32 F31 (Or.inr ⟨(own_w hw 133 rfl), rfl, hnm⟩) (own_w hw 122 rfl) (ty := (.array .int)) (by decide) rfl rfl (g := mkF m _ _ _) rfl rfl (H 13 rfl))
  have Fw33 : Fld Z h33 a1 c_6 "inOrder" "[I" (.ref b23) := Fld.same W33 F32
  have K34 : Keep h0 h33 [a1] := K30.wr W33 (Or.inl (List.mem_of_getElem? (i := 0) rfl))
  have Z34 : n0 ≤ h33.size := Nat.le_trans Z30 (Keep.of_wr W33).1
  have N33 := Fr.snoc X33 N20 g1
  have go35 := (s_bipush (s_aloadN go33 X33 hx (H 14 rfl) rfl rfl) X33 hx (H 15 rfl) (v := 32) rfl)
  obtain ⟨T36, h36, k36, X36, e36, E36, A36, go36⟩ := w_3 go35 (newP X33 hx hZ (own_w hw 19 rfl) e33 (g := mkF m _ _ _) rfl (H 16 rfl) rfl (by decide) (cap := 32) (by decide) (by decide) (by decide) (by decide))
  obtain ⟨b36, gz36⟩ : ∃ z, z = h33.size := ⟨_, rfl⟩
  rw [← gz36] at A36 go36
  have F37 := F31.wr W33
  have l38 := Nat.lt_of_lt_of_le F37.lt (Nat.le_of_eq gz36.symm)
  have F39 := (F26.ext E23).other W33 (Ne.symm (Nat.ne_of_lt l5))
  have l40 := Nat.lt_of_lt_of_le F39.lt (Nat.le_of_eq gz36.symm)
  have F41 := (F28.ext E23).other W33 (Ne.symm (Nat.ne_of_lt l14))
  have l42 := Nat.lt_of_lt_of_le F41.lt (Nat.le_of_eq gz36.symm)
  have F43 := V23.other W33 (Ne.symm (Nat.ne_of_lt l25))
  have l44 := Nat.lt_of_lt_of_le F43.lt (Nat.le_of_eq gz36.symm)
  have g_b36 := Nat.le_trans Z34 (Nat.le_of_eq gz36.symm)
  have sz_b36 := Nat.le_trans K34.1 (Nat.le_of_eq gz36.symm)
  have K45 : Keep h0 h36 [a1] := K34.ext E36
  have Z45 : n0 ≤ h36.size := Nat.le_trans Z34 E36.1
  have V36 : Arv Z h36 b36 k36 .long (32 : Int32) (own_zl 32) (.long 0) := (Arv.new A36 (by decide)).pad (pad_rep [] (.long 0) 32)
  have F46 := F37.ext E36
  have F47 := ((((((F_time.ext E4).other W9 (Or.inr (slot_ne (Or.inl (own_w hw 135 rfl)) (Or.inl (own_w hw 129 rfl)) (by decide) (t := (.array .long)) (t' := (.array .long)) (by decide) (by decide)))).ext E12).other W20 (Or.inr (slot_ne (Or.inl (own_w hw 135 rfl)) (Or.inl (own_w hw 131 rfl)) (by decide) (t := (.array .long)) (t' := (.array .int)) (by decide) (by decide)))).ext E23).other W33 (Or.inr (slot_ne (Or.inl (own_w hw 135 rfl)) (Or.inr (own_w hw 133 rfl)) (by decide) (t := (.array .long)) (t' := (.array .int)) (by decide) (by decide)))).ext E36
  obtain ⟨T48, h48, X48, e48, W48, go48⟩ := w_2 go36 (putF X36 hx hZ hown (host := "") (Or.inl (own_w hw 134 rfl)) Via.refl e36 F47 F46 (Or.inl (own_w hw 135 rfl)) (own_w hw 122 rfl) (ty := (.array .long)) (by decide) rfl rfl (g := mkF m _ _ _) rfl rfl (H 17 rfl))
  have Fw48 : Fld Z h48 a1 c_6 "time" "[J" (.ref b36) := Fld.same W48 F47
  have K49 : Keep h0 h48 [a1] := K45.wr W48 (Or.inl (List.mem_of_getElem? (i := 0) rfl))
  have Z49 : n0 ≤ h48.size := Nat.le_trans Z45 (Keep.of_wr W48).1
  have N48 := Fr.snoc X48 N33 g1
  have go50 := (s_bipush (s_aloadN go48 X48 hx (H 18 rfl) rfl rfl) X48 hx (H 19 rfl) (v := 32) rfl)
  obtain ⟨T51, h51, k51, X51, e51, E51, A51, go51⟩ := w_3 go50 (newP X48 hx hZ (own_w hw 9 rfl) e48 (g := mkF m _ _ _) rfl (H 20 rfl) rfl (by decide) (cap := 32) (by decide) (by decide) (by decide) (by decide))
  obtain ⟨b51, gz51⟩ : ∃ z, z = h48.size := ⟨_, rfl⟩
  rw [← gz51] at A51 go51
  have F52 := F46.wr W48
  have l53 := Nat.lt_of_lt_of_le F52.lt (Nat.le_of_eq gz51.symm)
  have F54 := (F39.ext E36).other W48 (Ne.symm (Nat.ne_of_lt l5))
  have l55 := Nat.lt_of_lt_of_le F54.lt (Nat.le_of_eq gz51.symm)
  have F56 := (F41.ext E36).other W48 (Ne.symm (Nat.ne_of_lt l14))
  have l57 := Nat.lt_of_lt_of_le F56.lt (Nat.le_of_eq gz51.symm)
  have F58 := (F43.ext E36).other W48 (Ne.symm (Nat.ne_of_lt l25))
  have l59 := Nat.lt_of_lt_of_le F58.lt (Nat.le_of_eq gz51.symm)
  have F60 := V36.other W48 (Ne.symm (Nat.ne_of_lt l38))
  have l61 := Nat.lt_of_lt_of_le F60.lt (Nat.le_of_eq gz51.symm)
  have g_b51 := Nat.le_trans Z49 (Nat.le_of_eq gz51.symm)
  have sz_b51 := Nat.le_trans K49.1 (Nat.le_of_eq gz51.symm)
  have K62 : Keep h0 h51 [a1] := K49.ext E51
  have Z62 : n0 ≤ h51.size := Nat.le_trans Z49 E51.1
  have V51 : Arv Z h51 b51 k51 .int (32 : Int32) (own_zi 32) (.int 0) := (Arv.new A51 (by decide)).pad (pad_rep [] (.int 0) 32)
  have F63 := F52.ext E51
  have F64 := ((((((((F_finishing.ext E4).other W9 (Or.inr (slot_ne (Or.inl (own_w hw 137 rfl)) (Or.inl (own_w hw 129 rfl)) (by decide) (t := (.array .int)) (t' := (.array .long)) (by decide) (by decide)))).ext E12).other W20 (Or.inr (slot_ne (Or.inl (own_w hw 137 rfl)) (Or.inl (own_w hw 131 rfl)) (by decide) (t := (.array .int)) (t' := (.array .int)) (by decide) (by decide)))).ext E23).other W33 (Or.inr (slot_ne (Or.inl (own_w hw 137 rfl)) (Or.inr (own_w hw 133 rfl)) (by decide) (t := (.array .int)) (t' := (.array .int)) (by decide) (by decide)))).ext E36).other W48 (Or.inr (slot_ne (Or.inl (own_w hw 137 rfl)) (Or.inl (own_w hw 135 rfl)) (by decide) (t := (.array .int)) (t' := (.array .long)) (by decide) (by decide)))).ext E51
  obtain ⟨T65, h65, X65, e65, W65, go65⟩ := w_2 go51 (putF X51 hx hZ hown (host := "") (Or.inl (own_w hw 136 rfl)) Via.refl e51 F64 F63 (Or.inl (own_w hw 137 rfl)) (own_w hw 122 rfl) (ty := (.array .int)) (by decide) rfl rfl (g := mkF m _ _ _) rfl rfl (H 21 rfl))
  have Fw65 : Fld Z h65 a1 c_6 "finishing" "[I" (.ref b51) := Fld.same W65 F64
  have K66 : Keep h0 h65 [a1] := K62.wr W65 (Or.inl (List.mem_of_getElem? (i := 0) rfl))
  have Z66 : n0 ≤ h65.size := Nat.le_trans Z62 (Keep.of_wr W65).1
  have N65 := Fr.snoc X65 N48 g1
  have F67 := F63.wr W65
  have F68 := (((((((((F_kinds.ext E4).other W9 (Or.inr (slot_ne (Or.inr (own_w hw 139 rfl)) (Or.inl (own_w hw 129 rfl)) (by decide) (t := .int) (t' := (.array .long)) (by decide) (by decide)))).ext E12).other W20 (Or.inr (slot_ne (Or.inr (own_w hw 139 rfl)) (Or.inl (own_w hw 131 rfl)) (by decide) (t := .int) (t' := (.array .int)) (by decide) (by decide)))).ext E23).other W33 (Or.inr (slot_ne (Or.inr (own_w hw 139 rfl)) (Or.inr (own_w hw 133 rfl)) (by decide) (t := .int) (t' := (.array .int)) (by decide) (by decide)))).ext E36).other W48 (Or.inr (slot_ne (Or.inr (own_w hw 139 rfl)) (Or.inl (own_w hw 135 rfl)) (by decide) (t := .int) (t' := (.array .long)) (by decide) (by decide)))).ext E51).other W65 (Or.inr (slot_ne (Or.inr (own_w hw 139 rfl)) (Or.inl (own_w hw 137 rfl)) (by decide) (t := .int) (t' := (.array .int)) (by decide) (by decide)))
  have go69 := (s_iloadN (s_aloadN go65 X65 hx (H 22 rfl) rfl rfl) X65 hx (H 23 rfl) rfl)
  obtain ⟨T70, h70, X70, e70, W70, go70⟩ := w_2 go69 (putF X65 hx hZ hown (host := "") (Or.inl (own_w hw 138 rfl)) Via.refl e65 F68 F67 (Or.inr ⟨(own_w hw 139 rfl), rfl, hnm⟩) (own_w hw 122 rfl) (ty := .int) (by decide) rfl rfl (g := mkF m _ _ _) rfl rfl (H 24 rfl))
  have Fw70 : Fld Z h70 a1 c_6 "kinds" "I" (.int 1) := Fld.same W70 F68
  have K71 : Keep h0 h70 [a1] := K66.wr W70 (Or.inl (List.mem_of_getElem? (i := 0) rfl))
  have Z71 : n0 ≤ h70.size := Nat.le_trans Z66 (Keep.of_wr W70).1
  have N70 := Fr.snoc X70 N65 g1
  have go72 := (s_imulE (s_iloadN (s_bipush (s_aloadN go70 X70 hx (H 25 rfl) rfl rfl) X70 hx (H 26 rfl) (v := 32) rfl) X70 hx (H 27 rfl) rfl) X70 hx (H 28 rfl) (v := 32) rfl)
  obtain ⟨T73, h73, k73, X73, e73, E73, A73, go73⟩ := w_3 go72 (newP X70 hx hZ (own_w hw 19 rfl) e70 (g := mkF m _ _ _) rfl (H 29 rfl) rfl (by decide) (cap := 32) (by decide) (by decide) (by decide) (by decide))
  obtain ⟨b73, gz73⟩ : ∃ z, z = h70.size := ⟨_, rfl⟩
  rw [← gz73] at A73 go73
  have F74 := F67.wr W70
  have l75 := Nat.lt_of_lt_of_le F74.lt (Nat.le_of_eq gz73.symm)
  have F76 := ((F54.ext E51).other W65 (Ne.symm (Nat.ne_of_lt l5))).other W70 (Ne.symm (Nat.ne_of_lt l5))
  have l77 := Nat.lt_of_lt_of_le F76.lt (Nat.le_of_eq gz73.symm)
  have F78 := ((F56.ext E51).other W65 (Ne.symm (Nat.ne_of_lt l14))).other W70 (Ne.symm (Nat.ne_of_lt l14))
  have l79 := Nat.lt_of_lt_of_le F78.lt (Nat.le_of_eq gz73.symm)
  have F80 := ((F58.ext E51).other W65 (Ne.symm (Nat.ne_of_lt l25))).other W70 (Ne.symm (Nat.ne_of_lt l25))
  have l81 := Nat.lt_of_lt_of_le F80.lt (Nat.le_of_eq gz73.symm)
  have F82 := ((F60.ext E51).other W65 (Ne.symm (Nat.ne_of_lt l38))).other W70 (Ne.symm (Nat.ne_of_lt l38))
  have l83 := Nat.lt_of_lt_of_le F82.lt (Nat.le_of_eq gz73.symm)
  have F84 := (V51.other W65 (Ne.symm (Nat.ne_of_lt l53))).other W70 (Ne.symm (Nat.ne_of_lt l53))
  have l85 := Nat.lt_of_lt_of_le F84.lt (Nat.le_of_eq gz73.symm)
  have g_b73 := Nat.le_trans Z71 (Nat.le_of_eq gz73.symm)
  have sz_b73 := Nat.le_trans K71.1 (Nat.le_of_eq gz73.symm)
  have K86 : Keep h0 h73 [a1] := K71.ext E73
  have Z86 : n0 ≤ h73.size := Nat.le_trans Z71 E73.1
  have V73 : Arv Z h73 b73 k73 .long (32 : Int32) (own_zl 32) (.long 0) := (Arv.new A73 (by decide)).pad (pad_rep [] (.long 0) 32)
  have F87 := F74.ext E73
  have F88 := (((((((((((F_units.ext E4).other W9 (Or.inr (slot_ne (Or.inl (own_w hw 141 rfl)) (Or.inl (own_w hw 129 rfl)) (by decide) (t := (.array .long)) (t' := (.array .long)) (by decide) (by decide)))).ext E12).other W20 (Or.inr (slot_ne (Or.inl (own_w hw 141 rfl)) (Or.inl (own_w hw 131 rfl)) (by decide) (t := (.array .long)) (t' := (.array .int)) (by decide) (by decide)))).ext E23).other W33 (Or.inr (slot_ne (Or.inl (own_w hw 141 rfl)) (Or.inr (own_w hw 133 rfl)) (by decide) (t := (.array .long)) (t' := (.array .int)) (by decide) (by decide)))).ext E36).other W48 (Or.inr (slot_ne (Or.inl (own_w hw 141 rfl)) (Or.inl (own_w hw 135 rfl)) (by decide) (t := (.array .long)) (t' := (.array .long)) (by decide) (by decide)))).ext E51).other W65 (Or.inr (slot_ne (Or.inl (own_w hw 141 rfl)) (Or.inl (own_w hw 137 rfl)) (by decide) (t := (.array .long)) (t' := (.array .int)) (by decide) (by decide)))).other W70 (Or.inr (slot_ne (Or.inl (own_w hw 141 rfl)) (Or.inr (own_w hw 139 rfl)) (by decide) (t := (.array .long)) (t' := .int) (by decide) (by decide)))).ext E73
  obtain ⟨T89, h89, X89, e89, W89, go89⟩ := w_2 go73 (putF X73 hx hZ hown (host := "") (Or.inl (own_w hw 140 rfl)) Via.refl e73 F88 F87 (Or.inl (own_w hw 141 rfl)) (own_w hw 122 rfl) (ty := (.array .long)) (by decide) rfl rfl (g := mkF m _ _ _) rfl rfl (H 30 rfl))
  have Fw89 : Fld Z h89 a1 c_6 "units" "[J" (.ref b73) := Fld.same W89 F88
  have K90 : Keep h0 h89 [a1] := K86.wr W89 (Or.inl (List.mem_of_getElem? (i := 0) rfl))
  have Z90 : n0 ≤ h89.size := Nat.le_trans Z86 (Keep.of_wr W89).1
  have N89 := Fr.snoc X89 N70 g1
  have F91 := F87.wr W89
  have F92 := ((((((((((((F_size.ext E4).other W9 (Or.inr (slot_ne (Or.inl (own_w hw 143 rfl)) (Or.inl (own_w hw 129 rfl)) (by decide) (t := .int) (t' := (.array .long)) (by decide) (by decide)))).ext E12).other W20 (Or.inr (slot_ne (Or.inl (own_w hw 143 rfl)) (Or.inl (own_w hw 131 rfl)) (by decide) (t := .int) (t' := (.array .int)) (by decide) (by decide)))).ext E23).other W33 (Or.inr (slot_ne (Or.inl (own_w hw 143 rfl)) (Or.inr (own_w hw 133 rfl)) (by decide) (t := .int) (t' := (.array .int)) (by decide) (by decide)))).ext E36).other W48 (Or.inr (slot_ne (Or.inl (own_w hw 143 rfl)) (Or.inl (own_w hw 135 rfl)) (by decide) (t := .int) (t' := (.array .long)) (by decide) (by decide)))).ext E51).other W65 (Or.inr (slot_ne (Or.inl (own_w hw 143 rfl)) (Or.inl (own_w hw 137 rfl)) (by decide) (t := .int) (t' := (.array .int)) (by decide) (by decide)))).other W70 (Or.inr (slot_ne (Or.inl (own_w hw 143 rfl)) (Or.inr (own_w hw 139 rfl)) (by decide) (t := .int) (t' := .int) (by decide) (by decide)))).ext E73).other W89 (Or.inr (slot_ne (Or.inl (own_w hw 143 rfl)) (Or.inl (own_w hw 141 rfl)) (by decide) (t := .int) (t' := (.array .long)) (by decide) (by decide)))
  have go93 := (s_iconst (s_aloadN go89 X89 hx (H 31 rfl) rfl rfl) X89 hx (H 32 rfl) (v := 1) rfl)
  obtain ⟨T94, h94, X94, e94, W94, go94⟩ := w_2 go93 (putF X89 hx hZ hown (host := "") (Or.inl (own_w hw 142 rfl)) Via.refl e89 F92 F91 (Or.inl (own_w hw 143 rfl)) (own_w hw 122 rfl) (ty := .int) (by decide) rfl rfl (g := mkF m _ _ _) rfl rfl (H 33 rfl))
  have Fw94 : Fld Z h94 a1 c_6 "size" "I" (.int 1) := Fld.same W94 F92
  have K95 : Keep h0 h94 [a1] := K90.wr W94 (Or.inl (List.mem_of_getElem? (i := 0) rfl))
  have Z95 : n0 ≤ h94.size := Nat.le_trans Z90 (Keep.of_wr W94).1
  have N94 := Fr.snoc X94 N89 g1
  refine own_f0 (Q := Q10 Z a0 a1 h0 n0) Bd.notSynchronized hx Bd.returns pre0 X94 go94 (H 34 rfl) e94 (by decide) (by decide) ?_
  exact ⟨rfl, N94, K95⟩

def dt24 : List (Nat × Instr × Nat) := [(0, .aload_n 0, 1), (1, .getfield 248, 3), (4, .ldc2_w 252, 3), (7, .lrem, 1), (8, .l2i, 1), (9, .istore 5, 2), (11, .aload_n 0, 1), (12, .getfield 14, 3), (15, .iload 5, 2), (17, .lload_n 1, 1), (18, .lastore, 1), (19, .aload_n 0, 1), (20, .getfield 18, 3), (23, .iload 5, 2), (25, .lload_n 3, 1), (26, .lastore, 1), (27, .aload_n 0, 1), (28, .dup, 1), (29, .getfield 248, 3), (32, .lconst 1, 1), (33, .ladd, 1), (34, .putfield 248, 3), (37, .return_, 1)]
theorem dk24 : ∀ x ∈ dt24, decode prog_91_method_34_code x.1 = .ok x.2 := by decide +kernel
theorem pn_24_0 : plainName "com/example/slackline/slackline/replay/Plan" = true := by first | (simp [plainName, overriddenIn]; done) | decide +kernel
theorem ef_24_0 (m : MethodId) (x0 : Addr) (x1 : Int64) (x2 : Int64) : entryFrame m #[(.ref x0), (.long x1), (.long x2)] 6 = mkF m 0 #[vr x0, vj x1, .second, vj x2, .second, .unset] [] := by first | (simp [entryFrame, mkF, argsToLocals, Value.category]; done) | rfl
def Q24_0 (Z : State) (a0 : Array Value) (a1 : Addr) (q2 : Int64) (q3 : Int64) (tf : Addr) (tt : Addr) (kf : ClassId) (kt : ClassId) (oS : Addr) (h0 : Heap) (n0 : Nat) (v : Option Value) (h : Heap) (L : List Loc) : Prop := v = none ∧ Fr n0 L ∧ Keep h0 h [a1, tf, tt] ∧ Fld Z h a1 c_5 "steps" "Lcom/example/slackline/slackline/replay/Steps;" (.ref oS) ∧ Fld Z h a1 c_5 "version" "J" (.long 1) ∧ Fld Z h a1 c_5 "touchedFrom" "[J" (.ref tf) ∧ Fld Z h a1 c_5 "touchedTo" "[J" (.ref tt) ∧ Arv Z h tf kf .long (64 : Int32) ((.long q2) :: own_zl 63) (.long 0) ∧ Arv Z h tt kt .long (64 : Int32) ((.long q3) :: own_zl 63) (.long 0)
set_option maxRecDepth 65536 in
set_option maxHeartbeats 40000000 in
theorem rm24_0 (l : Launch) (Z : State) (a0 : Array Value) (hw : ∀ d ∈ tables_1, d.before a0 Z = true) (ws : List Jvm.Cond) (a1 : Addr) (q2 : Int64) (q3 : Int64) (tf : Addr) (tt : Addr) (kf : ClassId) (kt : ClassId) (oS : Addr) (h0 : Heap) (n0 : Nat) (Z0 : n0 ≤ h0.size) (E0 : Exa Z h0 a1 c_5) (Fv : Fld Z h0 a1 c_5 "version" "J" (.long 0)) (Ff : Fld Z h0 a1 c_5 "touchedFrom" "[J" (.ref tf)) (Ft : Fld Z h0 a1 c_5 "touchedTo" "[J" (.ref tt)) (Af : Arv Z h0 tf kf .long (64 : Int32) (own_zl 64) (.long 0)) (At : Arv Z h0 tt kt .long (64 : Int32) (own_zl 64) (.long 0)) (g1 : n0 ≤ a1) (g2 : n0 ≤ tf) (g3 : n0 ≤ tt) (n1 : a1 ≠ tf) (n2 : a1 ≠ tt) (n3 : tf ≠ tt) (Fs : Fld Z h0 a1 c_5 "steps" "Lcom/example/slackline/slackline/replay/Steps;" (.ref oS)) :
    MetFree l y_23 (head1 (Jvm.Cond.code y_23 prog_91_method_34_code 6 none :: ws) ({ frames := 0, cells := 0, slots := 0, locals := 0 } : Room)) (fun a U => a = #[(.ref a1), (.long q2), (.long q3)] ∧ Z.Warmed39 U.vm ∧ U.heap = h0) (fun _ _ _ _ _ => True) (fun _ U o U' => ∃ v L, o = .returned v ∧ Q24_0 Z a0 a1 q2 q3 tf tt kf kt oS h0 n0 v U'.heap L ∧ FrameEnd U o U' L ({ frames := 0, cells := 0, slots := 0, locals := 0 } : Room).cells ({ frames := 0, cells := 0, slots := 0, locals := 0 } : Room).slots) := by
  refine MetFree.of_bodySF (plainFor_of_name pn_24_0) hisR ?_
  intro p e s m args below meth c s₁ Bd hml0 hP hK
  obtain ⟨rfl, hZ, hh⟩ := hP
  have hx := Bd.exec
  have hby := Bd.bytes
  have hml : c.maxLocals = 6 := hml0
  have hown : s.vm.findClass "com/example/slackline/slackline/replay/Plan" = some m.cls := findClass_of_methodNamed Bd.named
  have hnm := (name_of_methodNamed Bd.named Bd.method).1
  have X0 : Stand p l e ({ frames := 0, cells := 0, slots := 0, locals := 0 } : Room) s m #[(.ref a1), (.long q2), (.long q3)] below meth c s₁ [] 0 0 := Stand.of_body Bd
  have e0 : s₁.heap = h0 := by rw [← hh, Bd.state]; rfl
  have N0 := Fr.nil n0
  have H : ∀ (k : Nat) {i : Nat} {r : Instr × Nat}, dt24[k]? = some (i, r) → decode c.code i = .ok r := fun _ i r q => hb hby (dk24 (i, r) (List.mem_of_getElem? q))
  have K0 : Keep h0 h0 [a1, tf, tt] := Keep.refl h0 [a1, tf, tt]
  obtain ⟨F0, hF0⟩ : ∃ F : JFrame, F = entryFrame m #[(.ref a1), (.long q2), (.long q3)] 6 := ⟨_, rfl⟩
  have pre0 : ∀ t, Steps p.tables e below (s₁.setTop F0) t → Steps p.tables e below (s₁.setTop (entryFrame m #[(.ref a1), (.long q2), (.long q3)] 6)) t := fun t k => hF0 ▸ k
  have go0 : Go p e below s₁ F0 s₁ (mkF m 0 #[vr a1, vj q2, .second, vj q3, .second, .unset] []) := fun t k => castTop (hF0.trans (ef_24_0 m a1 q2 q3)) k
  have go1 := (s_aloadN go0 X0 hx (H 0 rfl) rfl rfl)
  obtain ⟨T2, X2, e2, go2⟩ := gF go1 X0 hx hZ hown (own_w hw 246 rfl) e0 Fv (H 1 rfl)
  have go3 := (s_aloadN (s_istore (s_l2iE (s_lremE (s_ldc2 go2 X2 hx hown (mvT hZ (own_w hw 248 rfl)) (H 2 rfl)) X2 hx (H 3 rfl) (by decide) (v := 0) rfl) X2 hx (H 4 rfl) (v := 0) rfl) X2 hx (H 5 rfl) (L' := #[vr a1, vj q2, .second, vj q3, .second, vi 0]) rfl) X2 hx (H 6 rfl) rfl rfl)
  obtain ⟨T4, X4, e4, go4⟩ := gF go3 X2 hx hZ hown (own_w hw 20 rfl) e2 Ff (H 7 rfl)
  have go5 := (s_lloadN (s_iload go4 X4 hx (H 8 rfl) rfl) X4 hx (H 9 rfl) rfl)
  obtain ⟨cl6, Ar6, q6, Sz6, Nn6, Hs6, G6⟩ := id Af
  have hin6 : ¬ ((0 : Int32) < 0 ∨ cl6.slots.size ≤ ((0 : Int32)).toNatClampNeg) := inb_of Sz6 ⟨by decide, by decide⟩
  obtain ⟨T6, h6, X6, e6, W6, go6⟩ := w_2 go5 (stJ X4 hx hZ e4 Ar6 (j := (0 : Int32)) hin6 (g := mkF m _ _ _) rfl rfl (H 10 rfl))
  have V6 : Arv Z h6 tf kf .long (64 : Int32) ((.long q2) :: own_zl 63) (.long 0) := Arv.set Ar6 q6 Sz6 Nn6 Hs6 G6 rfl W6 0 rfl (Nat.le_of_ble_eq_true rfl)
  have K7 : Keep h0 h6 [a1, tf, tt] := K0.wr W6 (Or.inl (List.mem_of_getElem? (i := 1) rfl))
  have Z7 : n0 ≤ h6.size := Nat.le_trans Z0 (Keep.of_wr W6).1
  have N6 := Fr.snoc X6 N0 g2
  have F8 := Ft.other W6 (Or.inl n1)
  have go9 := (s_aloadN go6 X6 hx (H 11 rfl) rfl rfl)
  obtain ⟨T10, X10, e10, go10⟩ := gF go9 X6 hx hZ hown (own_w hw 22 rfl) e6 F8 (H 12 rfl)
  have F11 := At.other W6 (Ne.symm n3)
  have go12 := (s_lloadN (s_iload go10 X10 hx (H 13 rfl) rfl) X10 hx (H 14 rfl) rfl)
  obtain ⟨cl13, Ar13, q13, Sz13, Nn13, Hs13, G13⟩ := id F11
  have hin13 : ¬ ((0 : Int32) < 0 ∨ cl13.slots.size ≤ ((0 : Int32)).toNatClampNeg) := inb_of Sz13 ⟨by decide, by decide⟩
  obtain ⟨T13, h13, X13, e13, W13, go13⟩ := w_2 go12 (stJ X10 hx hZ e10 Ar13 (j := (0 : Int32)) hin13 (g := mkF m _ _ _) rfl rfl (H 15 rfl))
  have V13 : Arv Z h13 tt kt .long (64 : Int32) ((.long q3) :: own_zl 63) (.long 0) := Arv.set Ar13 q13 Sz13 Nn13 Hs13 G13 rfl W13 0 rfl (Nat.le_of_ble_eq_true rfl)
  have K14 : Keep h0 h13 [a1, tf, tt] := K7.wr W13 (Or.inl (List.mem_of_getElem? (i := 2) rfl))
  have Z14 : n0 ≤ h13.size := Nat.le_trans Z7 (Keep.of_wr W13).1
  have N13 := Fr.snoc X13 N6 g3
  have F15 := (Fv.other W6 (Or.inl n1)).other W13 (Or.inl n2)
  have go16 := (s_dup (s_aloadN go13 X13 hx (H 16 rfl) rfl rfl) X13 hx (H 17 rfl) rfl)
  obtain ⟨T17, X17, e17, go17⟩ := gF go16 X13 hx hZ hown (own_w hw 246 rfl) e13 F15 (H 18 rfl)
  have F18 := (E0.wr W6).wr W13
  have go19 := (s_laddE (s_lconst go17 X17 hx (H 19 rfl) (v := 1) rfl) X17 hx (H 20 rfl) (v := 1) rfl)
  obtain ⟨T20, h20, X20, e20, W20, go20⟩ := w_2 go19 (putF X17 hx hZ hown (host := "") (Or.inl (own_w hw 246 rfl)) Via.refl e17 F15 F18 (Or.inl (own_w hw 247 rfl)) (own_w hw 11 rfl) (ty := .long) (by decide) rfl rfl (g := mkF m _ _ _) rfl rfl (H 21 rfl))
  have Fw20 : Fld Z h20 a1 c_5 "version" "J" (.long 1) := Fld.same W20 F15
  have K21 : Keep h0 h20 [a1, tf, tt] := K14.wr W20 (Or.inl (List.mem_of_getElem? (i := 0) rfl))
  have Z21 : n0 ≤ h20.size := Nat.le_trans Z14 (Keep.of_wr W20).1
  have N20 := Fr.snoc X20 N13 g1
  refine own_f0 (Q := Q24_0 Z a0 a1 q2 q3 tf tt kf kt oS h0 n0) Bd.notSynchronized hx Bd.returns pre0 X20 go20 (H 22 rfl) e20 (by decide) (by decide) ?_
  have F22 := ((Fs.other W6 (Or.inl n1)).other W13 (Or.inl n2)).other W20 (Or.inr (slot_ne (Or.inr (own_w hw 120 rfl)) (Or.inl (own_w hw 247 rfl)) (by decide) (t := (.object "com/example/slackline/slackline/replay/Steps")) (t' := .long) (by decide) (by decide)))
  have F23 := ((Ff.other W6 (Or.inl n1)).other W13 (Or.inl n2)).other W20 (Or.inr (slot_ne (Or.inr (own_w hw 21 rfl)) (Or.inl (own_w hw 247 rfl)) (by decide) (t := (.array .long)) (t' := .long) (by decide) (by decide)))
  have F24 := (F8.other W13 (Or.inl n2)).other W20 (Or.inr (slot_ne (Or.inr (own_w hw 23 rfl)) (Or.inl (own_w hw 247 rfl)) (by decide) (t := (.array .long)) (t' := .long) (by decide) (by decide)))
  have F25 := (V6.other W13 n3).other W20 (Ne.symm n1)
  have F26 := V13.other W20 (Ne.symm n2)
  exact ⟨rfl, N20, K21, F22, Fw20, F23, F24, F25, F26⟩

theorem pn_24_1 : plainName "com/example/slackline/slackline/replay/Plan" = true := by first | (simp [plainName, overriddenIn]; done) | decide +kernel
theorem ef_24_1 (m : MethodId) (x0 : Addr) (x1 : Int64) (x2 : Int64) : entryFrame m #[(.ref x0), (.long x1), (.long x2)] 6 = mkF m 0 #[vr x0, vj x1, .second, vj x2, .second, .unset] [] := by first | (simp [entryFrame, mkF, argsToLocals, Value.category]; done) | rfl
def Q24_1 (Z : State) (a0 : Array Value) (a1 : Addr) (q2 : Int64) (q3 : Int64) (tf : Addr) (tt : Addr) (kf : ClassId) (kt : ClassId) (oS : Addr) (x0 : Int64) (y0 : Int64) (h0 : Heap) (n0 : Nat) (v : Option Value) (h : Heap) (L : List Loc) : Prop := v = none ∧ Fr n0 L ∧ Keep h0 h [a1, tf, tt] ∧ Fld Z h a1 c_5 "steps" "Lcom/example/slackline/slackline/replay/Steps;" (.ref oS) ∧ Fld Z h a1 c_5 "version" "J" (.long 2) ∧ Fld Z h a1 c_5 "touchedFrom" "[J" (.ref tf) ∧ Fld Z h a1 c_5 "touchedTo" "[J" (.ref tt) ∧ Arv Z h tf kf .long (64 : Int32) ((.long x0) :: (.long q2) :: own_zl 62) (.long 0) ∧ Arv Z h tt kt .long (64 : Int32) ((.long y0) :: (.long q3) :: own_zl 62) (.long 0)
set_option maxRecDepth 65536 in
set_option maxHeartbeats 40000000 in
theorem rm24_1 (l : Launch) (Z : State) (a0 : Array Value) (hw : ∀ d ∈ tables_1, d.before a0 Z = true) (ws : List Jvm.Cond) (a1 : Addr) (q2 : Int64) (q3 : Int64) (tf : Addr) (tt : Addr) (kf : ClassId) (kt : ClassId) (oS : Addr) (x0 : Int64) (y0 : Int64) (h0 : Heap) (n0 : Nat) (Z0 : n0 ≤ h0.size) (E0 : Exa Z h0 a1 c_5) (Fv : Fld Z h0 a1 c_5 "version" "J" (.long 1)) (Ff : Fld Z h0 a1 c_5 "touchedFrom" "[J" (.ref tf)) (Ft : Fld Z h0 a1 c_5 "touchedTo" "[J" (.ref tt)) (Af : Arv Z h0 tf kf .long (64 : Int32) ((.long x0) :: own_zl 63) (.long 0)) (At : Arv Z h0 tt kt .long (64 : Int32) ((.long y0) :: own_zl 63) (.long 0)) (g1 : n0 ≤ a1) (g2 : n0 ≤ tf) (g3 : n0 ≤ tt) (n1 : a1 ≠ tf) (n2 : a1 ≠ tt) (n3 : tf ≠ tt) (Fs : Fld Z h0 a1 c_5 "steps" "Lcom/example/slackline/slackline/replay/Steps;" (.ref oS)) :
    MetFree l y_23 (head1 (Jvm.Cond.code y_23 prog_91_method_34_code 6 none :: ws) ({ frames := 0, cells := 0, slots := 0, locals := 0 } : Room)) (fun a U => a = #[(.ref a1), (.long q2), (.long q3)] ∧ Z.Warmed39 U.vm ∧ U.heap = h0) (fun _ _ _ _ _ => True) (fun _ U o U' => ∃ v L, o = .returned v ∧ Q24_1 Z a0 a1 q2 q3 tf tt kf kt oS x0 y0 h0 n0 v U'.heap L ∧ FrameEnd U o U' L ({ frames := 0, cells := 0, slots := 0, locals := 0 } : Room).cells ({ frames := 0, cells := 0, slots := 0, locals := 0 } : Room).slots) := by
  refine MetFree.of_bodySF (plainFor_of_name pn_24_1) hisR ?_
  intro p e s m args below meth c s₁ Bd hml0 hP hK
  obtain ⟨rfl, hZ, hh⟩ := hP
  have hx := Bd.exec
  have hby := Bd.bytes
  have hml : c.maxLocals = 6 := hml0
  have hown : s.vm.findClass "com/example/slackline/slackline/replay/Plan" = some m.cls := findClass_of_methodNamed Bd.named
  have hnm := (name_of_methodNamed Bd.named Bd.method).1
  have X0 : Stand p l e ({ frames := 0, cells := 0, slots := 0, locals := 0 } : Room) s m #[(.ref a1), (.long q2), (.long q3)] below meth c s₁ [] 0 0 := Stand.of_body Bd
  have e0 : s₁.heap = h0 := by rw [← hh, Bd.state]; rfl
  have N0 := Fr.nil n0
  have H : ∀ (k : Nat) {i : Nat} {r : Instr × Nat}, dt24[k]? = some (i, r) → decode c.code i = .ok r := fun _ i r q => hb hby (dk24 (i, r) (List.mem_of_getElem? q))
  have K0 : Keep h0 h0 [a1, tf, tt] := Keep.refl h0 [a1, tf, tt]
  obtain ⟨F0, hF0⟩ : ∃ F : JFrame, F = entryFrame m #[(.ref a1), (.long q2), (.long q3)] 6 := ⟨_, rfl⟩
  have pre0 : ∀ t, Steps p.tables e below (s₁.setTop F0) t → Steps p.tables e below (s₁.setTop (entryFrame m #[(.ref a1), (.long q2), (.long q3)] 6)) t := fun t k => hF0 ▸ k
  have go0 : Go p e below s₁ F0 s₁ (mkF m 0 #[vr a1, vj q2, .second, vj q3, .second, .unset] []) := fun t k => castTop (hF0.trans (ef_24_1 m a1 q2 q3)) k
  have go1 := (s_aloadN go0 X0 hx (H 0 rfl) rfl rfl)
  obtain ⟨T2, X2, e2, go2⟩ := gF go1 X0 hx hZ hown (own_w hw 246 rfl) e0 Fv (H 1 rfl)
  have go3 := (s_aloadN (s_istore (s_l2iE (s_lremE (s_ldc2 go2 X2 hx hown (mvT hZ (own_w hw 248 rfl)) (H 2 rfl)) X2 hx (H 3 rfl) (by decide) (v := 1) rfl) X2 hx (H 4 rfl) (v := 1) rfl) X2 hx (H 5 rfl) (L' := #[vr a1, vj q2, .second, vj q3, .second, vi 1]) rfl) X2 hx (H 6 rfl) rfl rfl)
  obtain ⟨T4, X4, e4, go4⟩ := gF go3 X2 hx hZ hown (own_w hw 20 rfl) e2 Ff (H 7 rfl)
  have go5 := (s_lloadN (s_iload go4 X4 hx (H 8 rfl) rfl) X4 hx (H 9 rfl) rfl)
  obtain ⟨cl6, Ar6, q6, Sz6, Nn6, Hs6, G6⟩ := id Af
  have hin6 : ¬ ((1 : Int32) < 0 ∨ cl6.slots.size ≤ ((1 : Int32)).toNatClampNeg) := inb_of Sz6 ⟨by decide, by decide⟩
  obtain ⟨T6, h6, X6, e6, W6, go6⟩ := w_2 go5 (stJ X4 hx hZ e4 Ar6 (j := (1 : Int32)) hin6 (g := mkF m _ _ _) rfl rfl (H 10 rfl))
  have V6 : Arv Z h6 tf kf .long (64 : Int32) ((.long x0) :: (.long q2) :: own_zl 62) (.long 0) := Arv.set Ar6 q6 Sz6 Nn6 Hs6 G6 rfl W6 1 rfl (Nat.le_of_ble_eq_true rfl)
  have K7 : Keep h0 h6 [a1, tf, tt] := K0.wr W6 (Or.inl (List.mem_of_getElem? (i := 1) rfl))
  have Z7 : n0 ≤ h6.size := Nat.le_trans Z0 (Keep.of_wr W6).1
  have N6 := Fr.snoc X6 N0 g2
  have F8 := Ft.other W6 (Or.inl n1)
  have go9 := (s_aloadN go6 X6 hx (H 11 rfl) rfl rfl)
  obtain ⟨T10, X10, e10, go10⟩ := gF go9 X6 hx hZ hown (own_w hw 22 rfl) e6 F8 (H 12 rfl)
  have F11 := At.other W6 (Ne.symm n3)
  have go12 := (s_lloadN (s_iload go10 X10 hx (H 13 rfl) rfl) X10 hx (H 14 rfl) rfl)
  obtain ⟨cl13, Ar13, q13, Sz13, Nn13, Hs13, G13⟩ := id F11
  have hin13 : ¬ ((1 : Int32) < 0 ∨ cl13.slots.size ≤ ((1 : Int32)).toNatClampNeg) := inb_of Sz13 ⟨by decide, by decide⟩
  obtain ⟨T13, h13, X13, e13, W13, go13⟩ := w_2 go12 (stJ X10 hx hZ e10 Ar13 (j := (1 : Int32)) hin13 (g := mkF m _ _ _) rfl rfl (H 15 rfl))
  have V13 : Arv Z h13 tt kt .long (64 : Int32) ((.long y0) :: (.long q3) :: own_zl 62) (.long 0) := Arv.set Ar13 q13 Sz13 Nn13 Hs13 G13 rfl W13 1 rfl (Nat.le_of_ble_eq_true rfl)
  have K14 : Keep h0 h13 [a1, tf, tt] := K7.wr W13 (Or.inl (List.mem_of_getElem? (i := 2) rfl))
  have Z14 : n0 ≤ h13.size := Nat.le_trans Z7 (Keep.of_wr W13).1
  have N13 := Fr.snoc X13 N6 g3
  have F15 := (Fv.other W6 (Or.inl n1)).other W13 (Or.inl n2)
  have go16 := (s_dup (s_aloadN go13 X13 hx (H 16 rfl) rfl rfl) X13 hx (H 17 rfl) rfl)
  obtain ⟨T17, X17, e17, go17⟩ := gF go16 X13 hx hZ hown (own_w hw 246 rfl) e13 F15 (H 18 rfl)
  have F18 := (E0.wr W6).wr W13
  have go19 := (s_laddE (s_lconst go17 X17 hx (H 19 rfl) (v := 1) rfl) X17 hx (H 20 rfl) (v := 2) rfl)
  obtain ⟨T20, h20, X20, e20, W20, go20⟩ := w_2 go19 (putF X17 hx hZ hown (host := "") (Or.inl (own_w hw 246 rfl)) Via.refl e17 F15 F18 (Or.inl (own_w hw 247 rfl)) (own_w hw 11 rfl) (ty := .long) (by decide) rfl rfl (g := mkF m _ _ _) rfl rfl (H 21 rfl))
  have Fw20 : Fld Z h20 a1 c_5 "version" "J" (.long 2) := Fld.same W20 F15
  have K21 : Keep h0 h20 [a1, tf, tt] := K14.wr W20 (Or.inl (List.mem_of_getElem? (i := 0) rfl))
  have Z21 : n0 ≤ h20.size := Nat.le_trans Z14 (Keep.of_wr W20).1
  have N20 := Fr.snoc X20 N13 g1
  refine own_f0 (Q := Q24_1 Z a0 a1 q2 q3 tf tt kf kt oS x0 y0 h0 n0) Bd.notSynchronized hx Bd.returns pre0 X20 go20 (H 22 rfl) e20 (by decide) (by decide) ?_
  have F22 := ((Fs.other W6 (Or.inl n1)).other W13 (Or.inl n2)).other W20 (Or.inr (slot_ne (Or.inr (own_w hw 120 rfl)) (Or.inl (own_w hw 247 rfl)) (by decide) (t := (.object "com/example/slackline/slackline/replay/Steps")) (t' := .long) (by decide) (by decide)))
  have F23 := ((Ff.other W6 (Or.inl n1)).other W13 (Or.inl n2)).other W20 (Or.inr (slot_ne (Or.inr (own_w hw 21 rfl)) (Or.inl (own_w hw 247 rfl)) (by decide) (t := (.array .long)) (t' := .long) (by decide) (by decide)))
  have F24 := (F8.other W13 (Or.inl n2)).other W20 (Or.inr (slot_ne (Or.inr (own_w hw 23 rfl)) (Or.inl (own_w hw 247 rfl)) (by decide) (t := (.array .long)) (t' := .long) (by decide) (by decide)))
  have F25 := (V6.other W13 n3).other W20 (Ne.symm n1)
  have F26 := V13.other W20 (Ne.symm n2)
  exact ⟨rfl, N20, K21, F22, Fw20, F23, F24, F25, F26⟩

theorem pn_24_2 : plainName "com/example/slackline/slackline/replay/Plan" = true := by first | (simp [plainName, overriddenIn]; done) | decide +kernel
theorem ef_24_2 (m : MethodId) (x0 : Addr) (x1 : Int64) (x2 : Int64) : entryFrame m #[(.ref x0), (.long x1), (.long x2)] 6 = mkF m 0 #[vr x0, vj x1, .second, vj x2, .second, .unset] [] := by first | (simp [entryFrame, mkF, argsToLocals, Value.category]; done) | rfl
def Q24_2 (Z : State) (a0 : Array Value) (a1 : Addr) (q2 : Int64) (q3 : Int64) (tf : Addr) (tt : Addr) (kf : ClassId) (kt : ClassId) (oS : Addr) (x0 : Int64) (x1 : Int64) (y0 : Int64) (y1 : Int64) (h0 : Heap) (n0 : Nat) (v : Option Value) (h : Heap) (L : List Loc) : Prop := v = none ∧ Fr n0 L ∧ Keep h0 h [a1, tf, tt] ∧ Fld Z h a1 c_5 "steps" "Lcom/example/slackline/slackline/replay/Steps;" (.ref oS) ∧ Fld Z h a1 c_5 "version" "J" (.long 3) ∧ Fld Z h a1 c_5 "touchedFrom" "[J" (.ref tf) ∧ Fld Z h a1 c_5 "touchedTo" "[J" (.ref tt) ∧ Arv Z h tf kf .long (64 : Int32) ((.long x0) :: (.long x1) :: (.long q2) :: own_zl 61) (.long 0) ∧ Arv Z h tt kt .long (64 : Int32) ((.long y0) :: (.long y1) :: (.long q3) :: own_zl 61) (.long 0)
set_option maxRecDepth 65536 in
set_option maxHeartbeats 40000000 in
theorem rm24_2 (l : Launch) (Z : State) (a0 : Array Value) (hw : ∀ d ∈ tables_1, d.before a0 Z = true) (ws : List Jvm.Cond) (a1 : Addr) (q2 : Int64) (q3 : Int64) (tf : Addr) (tt : Addr) (kf : ClassId) (kt : ClassId) (oS : Addr) (x0 : Int64) (x1 : Int64) (y0 : Int64) (y1 : Int64) (h0 : Heap) (n0 : Nat) (Z0 : n0 ≤ h0.size) (E0 : Exa Z h0 a1 c_5) (Fv : Fld Z h0 a1 c_5 "version" "J" (.long 2)) (Ff : Fld Z h0 a1 c_5 "touchedFrom" "[J" (.ref tf)) (Ft : Fld Z h0 a1 c_5 "touchedTo" "[J" (.ref tt)) (Af : Arv Z h0 tf kf .long (64 : Int32) ((.long x0) :: (.long x1) :: own_zl 62) (.long 0)) (At : Arv Z h0 tt kt .long (64 : Int32) ((.long y0) :: (.long y1) :: own_zl 62) (.long 0)) (g1 : n0 ≤ a1) (g2 : n0 ≤ tf) (g3 : n0 ≤ tt) (n1 : a1 ≠ tf) (n2 : a1 ≠ tt) (n3 : tf ≠ tt) (Fs : Fld Z h0 a1 c_5 "steps" "Lcom/example/slackline/slackline/replay/Steps;" (.ref oS)) :
    MetFree l y_23 (head1 (Jvm.Cond.code y_23 prog_91_method_34_code 6 none :: ws) ({ frames := 0, cells := 0, slots := 0, locals := 0 } : Room)) (fun a U => a = #[(.ref a1), (.long q2), (.long q3)] ∧ Z.Warmed39 U.vm ∧ U.heap = h0) (fun _ _ _ _ _ => True) (fun _ U o U' => ∃ v L, o = .returned v ∧ Q24_2 Z a0 a1 q2 q3 tf tt kf kt oS x0 x1 y0 y1 h0 n0 v U'.heap L ∧ FrameEnd U o U' L ({ frames := 0, cells := 0, slots := 0, locals := 0 } : Room).cells ({ frames := 0, cells := 0, slots := 0, locals := 0 } : Room).slots) := by
  refine MetFree.of_bodySF (plainFor_of_name pn_24_2) hisR ?_
  intro p e s m args below meth c s₁ Bd hml0 hP hK
  obtain ⟨rfl, hZ, hh⟩ := hP
  have hx := Bd.exec
  have hby := Bd.bytes
  have hml : c.maxLocals = 6 := hml0
  have hown : s.vm.findClass "com/example/slackline/slackline/replay/Plan" = some m.cls := findClass_of_methodNamed Bd.named
  have hnm := (name_of_methodNamed Bd.named Bd.method).1
  have X0 : Stand p l e ({ frames := 0, cells := 0, slots := 0, locals := 0 } : Room) s m #[(.ref a1), (.long q2), (.long q3)] below meth c s₁ [] 0 0 := Stand.of_body Bd
  have e0 : s₁.heap = h0 := by rw [← hh, Bd.state]; rfl
  have N0 := Fr.nil n0
  have H : ∀ (k : Nat) {i : Nat} {r : Instr × Nat}, dt24[k]? = some (i, r) → decode c.code i = .ok r := fun _ i r q => hb hby (dk24 (i, r) (List.mem_of_getElem? q))
  have K0 : Keep h0 h0 [a1, tf, tt] := Keep.refl h0 [a1, tf, tt]
  obtain ⟨F0, hF0⟩ : ∃ F : JFrame, F = entryFrame m #[(.ref a1), (.long q2), (.long q3)] 6 := ⟨_, rfl⟩
  have pre0 : ∀ t, Steps p.tables e below (s₁.setTop F0) t → Steps p.tables e below (s₁.setTop (entryFrame m #[(.ref a1), (.long q2), (.long q3)] 6)) t := fun t k => hF0 ▸ k
  have go0 : Go p e below s₁ F0 s₁ (mkF m 0 #[vr a1, vj q2, .second, vj q3, .second, .unset] []) := fun t k => castTop (hF0.trans (ef_24_2 m a1 q2 q3)) k
  have go1 := (s_aloadN go0 X0 hx (H 0 rfl) rfl rfl)
  obtain ⟨T2, X2, e2, go2⟩ := gF go1 X0 hx hZ hown (own_w hw 246 rfl) e0 Fv (H 1 rfl)
  have go3 := (s_aloadN (s_istore (s_l2iE (s_lremE (s_ldc2 go2 X2 hx hown (mvT hZ (own_w hw 248 rfl)) (H 2 rfl)) X2 hx (H 3 rfl) (by decide) (v := 2) rfl) X2 hx (H 4 rfl) (v := 2) rfl) X2 hx (H 5 rfl) (L' := #[vr a1, vj q2, .second, vj q3, .second, vi 2]) rfl) X2 hx (H 6 rfl) rfl rfl)
  obtain ⟨T4, X4, e4, go4⟩ := gF go3 X2 hx hZ hown (own_w hw 20 rfl) e2 Ff (H 7 rfl)
  have go5 := (s_lloadN (s_iload go4 X4 hx (H 8 rfl) rfl) X4 hx (H 9 rfl) rfl)
  obtain ⟨cl6, Ar6, q6, Sz6, Nn6, Hs6, G6⟩ := id Af
  have hin6 : ¬ ((2 : Int32) < 0 ∨ cl6.slots.size ≤ ((2 : Int32)).toNatClampNeg) := inb_of Sz6 ⟨by decide, by decide⟩
  obtain ⟨T6, h6, X6, e6, W6, go6⟩ := w_2 go5 (stJ X4 hx hZ e4 Ar6 (j := (2 : Int32)) hin6 (g := mkF m _ _ _) rfl rfl (H 10 rfl))
  have V6 : Arv Z h6 tf kf .long (64 : Int32) ((.long x0) :: (.long x1) :: (.long q2) :: own_zl 61) (.long 0) := Arv.set Ar6 q6 Sz6 Nn6 Hs6 G6 rfl W6 2 rfl (Nat.le_of_ble_eq_true rfl)
  have K7 : Keep h0 h6 [a1, tf, tt] := K0.wr W6 (Or.inl (List.mem_of_getElem? (i := 1) rfl))
  have Z7 : n0 ≤ h6.size := Nat.le_trans Z0 (Keep.of_wr W6).1
  have N6 := Fr.snoc X6 N0 g2
  have F8 := Ft.other W6 (Or.inl n1)
  have go9 := (s_aloadN go6 X6 hx (H 11 rfl) rfl rfl)
  obtain ⟨T10, X10, e10, go10⟩ := gF go9 X6 hx hZ hown (own_w hw 22 rfl) e6 F8 (H 12 rfl)
  have F11 := At.other W6 (Ne.symm n3)
  have go12 := (s_lloadN (s_iload go10 X10 hx (H 13 rfl) rfl) X10 hx (H 14 rfl) rfl)
  obtain ⟨cl13, Ar13, q13, Sz13, Nn13, Hs13, G13⟩ := id F11
  have hin13 : ¬ ((2 : Int32) < 0 ∨ cl13.slots.size ≤ ((2 : Int32)).toNatClampNeg) := inb_of Sz13 ⟨by decide, by decide⟩
  obtain ⟨T13, h13, X13, e13, W13, go13⟩ := w_2 go12 (stJ X10 hx hZ e10 Ar13 (j := (2 : Int32)) hin13 (g := mkF m _ _ _) rfl rfl (H 15 rfl))
  have V13 : Arv Z h13 tt kt .long (64 : Int32) ((.long y0) :: (.long y1) :: (.long q3) :: own_zl 61) (.long 0) := Arv.set Ar13 q13 Sz13 Nn13 Hs13 G13 rfl W13 2 rfl (Nat.le_of_ble_eq_true rfl)
  have K14 : Keep h0 h13 [a1, tf, tt] := K7.wr W13 (Or.inl (List.mem_of_getElem? (i := 2) rfl))
  have Z14 : n0 ≤ h13.size := Nat.le_trans Z7 (Keep.of_wr W13).1
  have N13 := Fr.snoc X13 N6 g3
  have F15 := (Fv.other W6 (Or.inl n1)).other W13 (Or.inl n2)
  have go16 := (s_dup (s_aloadN go13 X13 hx (H 16 rfl) rfl rfl) X13 hx (H 17 rfl) rfl)
  obtain ⟨T17, X17, e17, go17⟩ := gF go16 X13 hx hZ hown (own_w hw 246 rfl) e13 F15 (H 18 rfl)
  have F18 := (E0.wr W6).wr W13
  have go19 := (s_laddE (s_lconst go17 X17 hx (H 19 rfl) (v := 1) rfl) X17 hx (H 20 rfl) (v := 3) rfl)
  obtain ⟨T20, h20, X20, e20, W20, go20⟩ := w_2 go19 (putF X17 hx hZ hown (host := "") (Or.inl (own_w hw 246 rfl)) Via.refl e17 F15 F18 (Or.inl (own_w hw 247 rfl)) (own_w hw 11 rfl) (ty := .long) (by decide) rfl rfl (g := mkF m _ _ _) rfl rfl (H 21 rfl))
  have Fw20 : Fld Z h20 a1 c_5 "version" "J" (.long 3) := Fld.same W20 F15
  have K21 : Keep h0 h20 [a1, tf, tt] := K14.wr W20 (Or.inl (List.mem_of_getElem? (i := 0) rfl))
  have Z21 : n0 ≤ h20.size := Nat.le_trans Z14 (Keep.of_wr W20).1
  have N20 := Fr.snoc X20 N13 g1
  refine own_f0 (Q := Q24_2 Z a0 a1 q2 q3 tf tt kf kt oS x0 x1 y0 y1 h0 n0) Bd.notSynchronized hx Bd.returns pre0 X20 go20 (H 22 rfl) e20 (by decide) (by decide) ?_
  have F22 := ((Fs.other W6 (Or.inl n1)).other W13 (Or.inl n2)).other W20 (Or.inr (slot_ne (Or.inr (own_w hw 120 rfl)) (Or.inl (own_w hw 247 rfl)) (by decide) (t := (.object "com/example/slackline/slackline/replay/Steps")) (t' := .long) (by decide) (by decide)))
  have F23 := ((Ff.other W6 (Or.inl n1)).other W13 (Or.inl n2)).other W20 (Or.inr (slot_ne (Or.inr (own_w hw 21 rfl)) (Or.inl (own_w hw 247 rfl)) (by decide) (t := (.array .long)) (t' := .long) (by decide) (by decide)))
  have F24 := (F8.other W13 (Or.inl n2)).other W20 (Or.inr (slot_ne (Or.inr (own_w hw 23 rfl)) (Or.inl (own_w hw 247 rfl)) (by decide) (t := (.array .long)) (t' := .long) (by decide) (by decide)))
  have F25 := (V6.other W13 n3).other W20 (Ne.symm n1)
  have F26 := V13.other W20 (Ne.symm n2)
  exact ⟨rfl, N20, K21, F22, Fw20, F23, F24, F25, F26⟩

def dt17 : List (Nat × Instr × Nat) := [(0, .aload_n 0, 1), (1, .getfield 49, 3), (4, .lload_n 1, 1), (5, .lload_n 3, 1), (6, .aload 5, 2), (8, .iconst 1, 1), (9, .invokevirtual 167, 3), (12, .aload_n 0, 1), (13, .lload_n 1, 1), (14, .lload_n 3, 1), (15, .invokevirtual 171, 3), (18, .return_, 1)]
theorem dk17 : ∀ x ∈ dt17, decode prog_91_method_15_code x.1 = .ok x.2 := by decide +kernel
theorem pn_17_0 : plainName "com/example/slackline/slackline/replay/Plan" = true := by first | (simp [plainName, overriddenIn]; done) | decide +kernel
theorem pd17_0_0 : parseMethodDescriptor "(JJ[II)V" = some ⟨[.long, .long, (.array .int), .int], none⟩ := by decide +kernel
theorem pd17_0_1 : parseMethodDescriptor "(JJ)V" = some ⟨[.long, .long], none⟩ := by decide +kernel
theorem ef_17_0 (m : MethodId) (x0 : Addr) (x1 : Int64) (x2 : Int64) (x3 : Addr) : entryFrame m #[(.ref x0), (.long x1), (.long x2), (.ref x3)] 6 = mkF m 0 #[vr x0, vj x1, .second, vj x2, .second, vr x3] [] := by first | (simp [entryFrame, mkF, argsToLocals, Value.category]; done) | rfl
def Q17_0 (Z : State) (a0 : Array Value) (a1 : Addr) (q2 : Int64) (q3 : Int64) (a4 : Addr) (tf : Addr) (tt : Addr) (kf : ClassId) (kt : ClassId) (kn : ClassId) (k1 : Nat) (oS : Addr) (I : Int) (h0 : Heap) (n0 : Nat) (v : Option Value) (h : Heap) (L : List Loc) : Prop := v = none ∧ Fr n0 L ∧ Exa Z h a1 c_5 ∧ Fld Z h a1 c_5 "version" "J" (.long 1) ∧ Fld Z h a1 c_5 "touchedFrom" "[J" (.ref tf) ∧ Fld Z h a1 c_5 "touchedTo" "[J" (.ref tt) ∧ Arv Z h tf kf .long (64 : Int32) ((.long q2) :: own_zl 63) (.long 0) ∧ Arv Z h tt kt .long (64 : Int32) ((.long q3) :: own_zl 63) (.long 0) ∧ Fld Z h a1 c_5 "steps" "Lcom/example/slackline/slackline/replay/Steps;" (.ref oS) ∧ Arv Z h a4 kn .int (1 : Int32) [(.int 1)] (.int 0) ∧ Inv Z a0 h k1 oS ((I + 1) + 1) ∧ (h0.size ≤ h.size)
set_option maxRecDepth 65536 in
set_option maxHeartbeats 40000000 in
theorem rm17_0 (l : Launch) (Z : State) (a0 : Array Value) (hw : ∀ d ∈ tables_1, d.before a0 Z = true) (ws : List Jvm.Cond) (a1 : Addr) (q2 : Int64) (q3 : Int64) (a4 : Addr) (tf : Addr) (tt : Addr) (kf : ClassId) (kt : ClassId) (kn : ClassId) (k1 : Nat) (oS : Addr) (I : Int) (h0 : Heap) (n0 : Nat) (Z0 : n0 ≤ h0.size) (E0 : Exa Z h0 a1 c_5) (Fv : Fld Z h0 a1 c_5 "version" "J" (.long 0)) (Ff : Fld Z h0 a1 c_5 "touchedFrom" "[J" (.ref tf)) (Ft : Fld Z h0 a1 c_5 "touchedTo" "[J" (.ref tt)) (Af : Arv Z h0 tf kf .long (64 : Int32) (own_zl 64) (.long 0)) (At : Arv Z h0 tt kt .long (64 : Int32) (own_zl 64) (.long 0)) (Fs : Fld Z h0 a1 c_5 "steps" "Lcom/example/slackline/slackline/replay/Steps;" (.ref oS)) (An : Arv Z h0 a4 kn .int (1 : Int32) [(.int 1)] (.int 0)) (iv : Inv Z a0 h0 k1 oS I) (hI : I ≤ 4) (lp : a1 < k1) (lf : tf < k1) (lt : tt < k1) (ln : a4 < k1) (hk : n0 ≤ k1) (g1 : n0 ≤ a1) (g2 : n0 ≤ tf) (g3 : n0 ≤ tt) (n1 : a1 ≠ tf) (n2 : a1 ≠ tt) (n3 : tf ≠ tt) (n4 : a4 ≠ a1) (n5 : a4 ≠ tf) (n6 : a4 ≠ tt) :
    MetFree l y_24 (head1 (Jvm.Cond.code y_24 prog_91_method_15_code 6 none :: ws) ({ frames := 4, cells := 12, slots := 48, locals := 81 } : Room)) (fun a U => a = #[(.ref a1), (.long q2), (.long q3), (.ref a4)] ∧ Z.Warmed39 U.vm ∧ U.heap = h0) (fun _ _ _ _ _ => True) (fun _ U o U' => ∃ v L, o = .returned v ∧ Q17_0 Z a0 a1 q2 q3 a4 tf tt kf kt kn k1 oS I h0 n0 v U'.heap L ∧ FrameEnd U o U' L ({ frames := 4, cells := 12, slots := 48, locals := 81 } : Room).cells ({ frames := 4, cells := 12, slots := 48, locals := 81 } : Room).slots) := by
  refine MetFree.of_bodySF (plainFor_of_name pn_17_0) hisR ?_
  intro p e s m args below meth c s₁ Bd hml0 hP hK
  obtain ⟨rfl, hZ, hh⟩ := hP
  have hx := Bd.exec
  have hby := Bd.bytes
  have hml : c.maxLocals = 6 := hml0
  have hown : s.vm.findClass "com/example/slackline/slackline/replay/Plan" = some m.cls := findClass_of_methodNamed Bd.named
  have hnm := (name_of_methodNamed Bd.named Bd.method).1
  have X0 : Stand p l e ({ frames := 4, cells := 12, slots := 48, locals := 81 } : Room) s m #[(.ref a1), (.long q2), (.long q3), (.ref a4)] below meth c s₁ [] 0 0 := Stand.of_body Bd
  have e0 : s₁.heap = h0 := by rw [← hh, Bd.state]; rfl
  have N0 := Fr.nil n0
  have H : ∀ (k : Nat) {i : Nat} {r : Instr × Nat}, dt17[k]? = some (i, r) → decode c.code i = .ok r := fun _ i r q => hb hby (dk17 (i, r) (List.mem_of_getElem? q))
  obtain ⟨F0, hF0⟩ : ∃ F : JFrame, F = entryFrame m #[(.ref a1), (.long q2), (.long q3), (.ref a4)] 6 := ⟨_, rfl⟩
  have pre0 : ∀ t, Steps p.tables e below (s₁.setTop F0) t → Steps p.tables e below (s₁.setTop (entryFrame m #[(.ref a1), (.long q2), (.long q3), (.ref a4)] 6)) t := fun t k => hF0 ▸ k
  have go0 : Go p e below s₁ F0 s₁ (mkF m 0 #[vr a1, vj q2, .second, vj q3, .second, vr a4] []) := fun t k => castTop (hF0.trans (ef_17_0 m a1 q2 q3 a4)) k
  have go1 := (s_aloadN go0 X0 hx (H 0 rfl) rfl rfl)
  obtain ⟨T2, X2, e2, go2⟩ := gF go1 X0 hx hZ hown (own_w hw 119 rfl) e0 Fs (H 1 rfl)
  have F3 := Inv.exa iv
  have go4 := (s_iconst (s_aload (s_lloadN (s_lloadN go2 X2 hx (H 2 rfl) rfl) X2 hx (H 3 rfl) rfl) X2 hx (H 4 rfl) rfl rfl) X2 hx (H 5 rfl) (v := 1) rfl)
  obtain ⟨cq5, kq5, qa5, qb5, qc5⟩ := isOf hZ e2 (F3)
  obtain ⟨_, _, ⟨T5, L5, k5, n5⟩, -, X5, ⟨Lc5, hQ5, l5, y5, z5⟩, g5⟩ := c_b go4 (X2.virtualBack hx (y := y_16) (z := y_16) hown (mvT hZ (own_w hw 206 rfl)) (mvT hZ (own_w hw 207 rfl)) (notFace_of_selects (args := #[]) (mvT hZ (own_w hw 209 rfl))) (mvT hZ (own_w hw 209 rfl)) (mvT hZ (own_w hw 208 rfl)) (by decide) (backOf (W := 0) (rm18 l Z a0 hw [] oS q2 q3 a4 I h0 k1 (Inv.ksz iv) iv hI (LI.of_arv An) ln) hZ (own_w hw 210 rfl) (own_w hw 41 rfl) (by decide) (by decide)) qa5 qc5 (g := mkF m _ _ _) rfl (by rw [hml]; rfl) (Steps.refl _) (argsL := [(.long q2), (.long q3), (.ref a4), (.int 1)]) (rest := []) (lenOf pd17_0_0 rfl) rfl (by show 2 * 0 + _ ≤ _; exact Nat.le_of_eq rfl) (H 6 rfl) (fun _ _ => ⟨rfl, e2, (by decide : 0 + 12 ≤ _), (by decide : 0 + 48 ≤ _)⟩))
  dsimp only [Pt.U, Pt.locs, Pt.cells, Pt.slots] at X5 l5 y5 z5 g5 hQ5
  subst l5 y5 z5
  obtain ⟨rfl, Nq5, Kn5, iv_5⟩ := hQ5
  have N5 := Fr.app N0 (Fr.mono Nq5 hk)
  have Z6 := Nat.le_trans Z0 Kn5.1
  have go7 := cv g5
  have F8 := exaS E0 (Kn5.2 _ lp)
  have F9 := fldS Fv (Kn5.2 _ lp)
  have F10 := fldS Ff (Kn5.2 _ lp)
  have F11 := fldS Ft (Kn5.2 _ lp)
  have F12 := arvS Af (Kn5.2 _ lf)
  have F13 := arvS At (Kn5.2 _ lt)
  have F14 := fldS Fs (Kn5.2 _ lp)
  have go15 := (s_lloadN (s_lloadN (s_aloadN go7 X5 hx (H 7 rfl) rfl rfl) X5 hx (H 8 rfl) rfl) X5 hx (H 9 rfl) rfl)
  obtain ⟨cq16, qa16, qb16⟩ := (F8).cell
  obtain ⟨_, _, ⟨T16, L16, k16, n16⟩, -, X16, ⟨Lc16, hQ16, l16, y16, z16⟩, g16⟩ := c_b go15 (X5.privateBack hx (y := y_23) hown (mvT hZ (own_w hw 242 rfl)) (mvT hZ (own_w hw 243 rfl)) (own_selp (mvT hZ (own_w hw 11 rfl)) (mvP hZ (own_w hw 244 rfl)) (mvT hZ (own_w hw 243 rfl)) (by decide)) (Cond.privateMethod_at (mvP hZ (own_w hw 244 rfl) (args := #[]))) (mvT hZ (own_w hw 245 rfl)) (by decide) (backOf (W := 0) (rm24_0 l Z a0 hw [] a1 q2 q3 tf tt kf kt oS (T5.heap) n0 Z6 F8 F9 F10 F11 F12 F13 g1 g2 g3 n1 n2 n3 F14) hZ (own_w hw 245 rfl) (own_w hw 12 rfl) (by decide) (by decide)) (g := mkF m _ _ _) rfl (by rw [hml]; rfl) (Steps.refl _) (a := a1) qa16 qb16 (argsL := [(.long q2), (.long q3)]) (rest := []) (lenOf pd17_0_1 rfl) rfl (by show 2 * 0 + _ ≤ _; exact Nat.le_of_eq rfl) (H 10 rfl) (fun _ _ => ⟨rfl, rfl, (by decide : 12 + 0 ≤ _), (by decide : 48 + 0 ≤ _)⟩))
  dsimp only [Pt.U, Pt.locs, Pt.cells, Pt.slots] at X16 l16 y16 z16 g16 hQ16
  subst l16 y16 z16
  obtain ⟨rfl, Nq16, Kc16, Fs_16, Fv_16, Ff_16, Ft_16, Af_16, At_16⟩ := hQ16
  have N16 := Fr.app N5 Nq16
  have Z17 := Nat.le_trans Z6 Kc16.1
  have go18 := cv g16
  refine own_f0 (Q := Q17_0 Z a0 a1 q2 q3 a4 tf tt kf kt kn k1 oS I h0 n0) Bd.notSynchronized hx Bd.returns pre0 X16 go18 (H 11 rfl) rfl (by decide) (by decide) ?_
  have F19 := F8.keep Kc16
  have F20 := (arvS An (Kn5.2 _ ln)).keep Kc16 (ninS n4 (ninS n5 (ninS n6 nin0)))
  have M21_0 : T5.heap.size ≤ T5.heap.size := Nat.le_refl _
  have O21_0 : OUT k1 T5.heap.size T5.heap T5.heap := OUT.refl _ _ _
  have O21_1 : OUT k1 T5.heap.size T5.heap T16.heap := O21_0.keep Kc16 M21_0 (kw1 (Or.inl lp) (kw1 (Or.inl lf) (kw1 (Or.inl lt) kw0)))
  have M21_1 : T5.heap.size ≤ T16.heap.size := Nat.le_trans M21_0 Kc16.1
  have F22 := iv_5.same M21_1 O21_1
  exact ⟨rfl, N16, F19, Fv_16, Ff_16, Ft_16, Af_16, At_16, Fs_16, F20, F22, (Nat.le_trans Kn5.1 Kc16.1)⟩

theorem pn_17_1 : plainName "com/example/slackline/slackline/replay/Plan" = true := by first | (simp [plainName, overriddenIn]; done) | decide +kernel
theorem pd17_1_0 : parseMethodDescriptor "(JJ[II)V" = some ⟨[.long, .long, (.array .int), .int], none⟩ := by decide +kernel
theorem pd17_1_1 : parseMethodDescriptor "(JJ)V" = some ⟨[.long, .long], none⟩ := by decide +kernel
theorem ef_17_1 (m : MethodId) (x0 : Addr) (x1 : Int64) (x2 : Int64) (x3 : Addr) : entryFrame m #[(.ref x0), (.long x1), (.long x2), (.ref x3)] 6 = mkF m 0 #[vr x0, vj x1, .second, vj x2, .second, vr x3] [] := by first | (simp [entryFrame, mkF, argsToLocals, Value.category]; done) | rfl
def Q17_1 (Z : State) (a0 : Array Value) (a1 : Addr) (q2 : Int64) (q3 : Int64) (a4 : Addr) (tf : Addr) (tt : Addr) (kf : ClassId) (kt : ClassId) (kn : ClassId) (k1 : Nat) (oS : Addr) (I : Int) (x0 : Int64) (y0 : Int64) (h0 : Heap) (n0 : Nat) (v : Option Value) (h : Heap) (L : List Loc) : Prop := v = none ∧ Fr n0 L ∧ Exa Z h a1 c_5 ∧ Fld Z h a1 c_5 "version" "J" (.long 2) ∧ Fld Z h a1 c_5 "touchedFrom" "[J" (.ref tf) ∧ Fld Z h a1 c_5 "touchedTo" "[J" (.ref tt) ∧ Arv Z h tf kf .long (64 : Int32) ((.long x0) :: (.long q2) :: own_zl 62) (.long 0) ∧ Arv Z h tt kt .long (64 : Int32) ((.long y0) :: (.long q3) :: own_zl 62) (.long 0) ∧ Fld Z h a1 c_5 "steps" "Lcom/example/slackline/slackline/replay/Steps;" (.ref oS) ∧ Arv Z h a4 kn .int (1 : Int32) [(.int 1)] (.int 0) ∧ Inv Z a0 h k1 oS ((I + 1) + 1) ∧ (h0.size ≤ h.size)
set_option maxRecDepth 65536 in
set_option maxHeartbeats 40000000 in
theorem rm17_1 (l : Launch) (Z : State) (a0 : Array Value) (hw : ∀ d ∈ tables_1, d.before a0 Z = true) (ws : List Jvm.Cond) (a1 : Addr) (q2 : Int64) (q3 : Int64) (a4 : Addr) (tf : Addr) (tt : Addr) (kf : ClassId) (kt : ClassId) (kn : ClassId) (k1 : Nat) (oS : Addr) (I : Int) (x0 : Int64) (y0 : Int64) (h0 : Heap) (n0 : Nat) (Z0 : n0 ≤ h0.size) (E0 : Exa Z h0 a1 c_5) (Fv : Fld Z h0 a1 c_5 "version" "J" (.long 1)) (Ff : Fld Z h0 a1 c_5 "touchedFrom" "[J" (.ref tf)) (Ft : Fld Z h0 a1 c_5 "touchedTo" "[J" (.ref tt)) (Af : Arv Z h0 tf kf .long (64 : Int32) ((.long x0) :: own_zl 63) (.long 0)) (At : Arv Z h0 tt kt .long (64 : Int32) ((.long y0) :: own_zl 63) (.long 0)) (Fs : Fld Z h0 a1 c_5 "steps" "Lcom/example/slackline/slackline/replay/Steps;" (.ref oS)) (An : Arv Z h0 a4 kn .int (1 : Int32) [(.int 1)] (.int 0)) (iv : Inv Z a0 h0 k1 oS I) (hI : I ≤ 4) (lp : a1 < k1) (lf : tf < k1) (lt : tt < k1) (ln : a4 < k1) (hk : n0 ≤ k1) (g1 : n0 ≤ a1) (g2 : n0 ≤ tf) (g3 : n0 ≤ tt) (n1 : a1 ≠ tf) (n2 : a1 ≠ tt) (n3 : tf ≠ tt) (n4 : a4 ≠ a1) (n5 : a4 ≠ tf) (n6 : a4 ≠ tt) :
    MetFree l y_24 (head1 (Jvm.Cond.code y_24 prog_91_method_15_code 6 none :: ws) ({ frames := 4, cells := 12, slots := 48, locals := 81 } : Room)) (fun a U => a = #[(.ref a1), (.long q2), (.long q3), (.ref a4)] ∧ Z.Warmed39 U.vm ∧ U.heap = h0) (fun _ _ _ _ _ => True) (fun _ U o U' => ∃ v L, o = .returned v ∧ Q17_1 Z a0 a1 q2 q3 a4 tf tt kf kt kn k1 oS I x0 y0 h0 n0 v U'.heap L ∧ FrameEnd U o U' L ({ frames := 4, cells := 12, slots := 48, locals := 81 } : Room).cells ({ frames := 4, cells := 12, slots := 48, locals := 81 } : Room).slots) := by
  refine MetFree.of_bodySF (plainFor_of_name pn_17_1) hisR ?_
  intro p e s m args below meth c s₁ Bd hml0 hP hK
  obtain ⟨rfl, hZ, hh⟩ := hP
  have hx := Bd.exec
  have hby := Bd.bytes
  have hml : c.maxLocals = 6 := hml0
  have hown : s.vm.findClass "com/example/slackline/slackline/replay/Plan" = some m.cls := findClass_of_methodNamed Bd.named
  have hnm := (name_of_methodNamed Bd.named Bd.method).1
  have X0 : Stand p l e ({ frames := 4, cells := 12, slots := 48, locals := 81 } : Room) s m #[(.ref a1), (.long q2), (.long q3), (.ref a4)] below meth c s₁ [] 0 0 := Stand.of_body Bd
  have e0 : s₁.heap = h0 := by rw [← hh, Bd.state]; rfl
  have N0 := Fr.nil n0
  have H : ∀ (k : Nat) {i : Nat} {r : Instr × Nat}, dt17[k]? = some (i, r) → decode c.code i = .ok r := fun _ i r q => hb hby (dk17 (i, r) (List.mem_of_getElem? q))
  obtain ⟨F0, hF0⟩ : ∃ F : JFrame, F = entryFrame m #[(.ref a1), (.long q2), (.long q3), (.ref a4)] 6 := ⟨_, rfl⟩
  have pre0 : ∀ t, Steps p.tables e below (s₁.setTop F0) t → Steps p.tables e below (s₁.setTop (entryFrame m #[(.ref a1), (.long q2), (.long q3), (.ref a4)] 6)) t := fun t k => hF0 ▸ k
  have go0 : Go p e below s₁ F0 s₁ (mkF m 0 #[vr a1, vj q2, .second, vj q3, .second, vr a4] []) := fun t k => castTop (hF0.trans (ef_17_1 m a1 q2 q3 a4)) k
  have go1 := (s_aloadN go0 X0 hx (H 0 rfl) rfl rfl)
  obtain ⟨T2, X2, e2, go2⟩ := gF go1 X0 hx hZ hown (own_w hw 119 rfl) e0 Fs (H 1 rfl)
  have F3 := Inv.exa iv
  have go4 := (s_iconst (s_aload (s_lloadN (s_lloadN go2 X2 hx (H 2 rfl) rfl) X2 hx (H 3 rfl) rfl) X2 hx (H 4 rfl) rfl rfl) X2 hx (H 5 rfl) (v := 1) rfl)
  obtain ⟨cq5, kq5, qa5, qb5, qc5⟩ := isOf hZ e2 (F3)
  obtain ⟨_, _, ⟨T5, L5, k5, n5⟩, -, X5, ⟨Lc5, hQ5, l5, y5, z5⟩, g5⟩ := c_b go4 (X2.virtualBack hx (y := y_16) (z := y_16) hown (mvT hZ (own_w hw 206 rfl)) (mvT hZ (own_w hw 207 rfl)) (notFace_of_selects (args := #[]) (mvT hZ (own_w hw 209 rfl))) (mvT hZ (own_w hw 209 rfl)) (mvT hZ (own_w hw 208 rfl)) (by decide) (backOf (W := 0) (rm18 l Z a0 hw [] oS q2 q3 a4 I h0 k1 (Inv.ksz iv) iv hI (LI.of_arv An) ln) hZ (own_w hw 210 rfl) (own_w hw 41 rfl) (by decide) (by decide)) qa5 qc5 (g := mkF m _ _ _) rfl (by rw [hml]; rfl) (Steps.refl _) (argsL := [(.long q2), (.long q3), (.ref a4), (.int 1)]) (rest := []) (lenOf pd17_1_0 rfl) rfl (by show 2 * 0 + _ ≤ _; exact Nat.le_of_eq rfl) (H 6 rfl) (fun _ _ => ⟨rfl, e2, (by decide : 0 + 12 ≤ _), (by decide : 0 + 48 ≤ _)⟩))
  dsimp only [Pt.U, Pt.locs, Pt.cells, Pt.slots] at X5 l5 y5 z5 g5 hQ5
  subst l5 y5 z5
  obtain ⟨rfl, Nq5, Kn5, iv_5⟩ := hQ5
  have N5 := Fr.app N0 (Fr.mono Nq5 hk)
  have Z6 := Nat.le_trans Z0 Kn5.1
  have go7 := cv g5
  have F8 := exaS E0 (Kn5.2 _ lp)
  have F9 := fldS Fv (Kn5.2 _ lp)
  have F10 := fldS Ff (Kn5.2 _ lp)
  have F11 := fldS Ft (Kn5.2 _ lp)
  have F12 := arvS Af (Kn5.2 _ lf)
  have F13 := arvS At (Kn5.2 _ lt)
  have F14 := fldS Fs (Kn5.2 _ lp)
  have go15 := (s_lloadN (s_lloadN (s_aloadN go7 X5 hx (H 7 rfl) rfl rfl) X5 hx (H 8 rfl) rfl) X5 hx (H 9 rfl) rfl)
  obtain ⟨cq16, qa16, qb16⟩ := (F8).cell
  obtain ⟨_, _, ⟨T16, L16, k16, n16⟩, -, X16, ⟨Lc16, hQ16, l16, y16, z16⟩, g16⟩ := c_b go15 (X5.privateBack hx (y := y_23) hown (mvT hZ (own_w hw 242 rfl)) (mvT hZ (own_w hw 243 rfl)) (own_selp (mvT hZ (own_w hw 11 rfl)) (mvP hZ (own_w hw 244 rfl)) (mvT hZ (own_w hw 243 rfl)) (by decide)) (Cond.privateMethod_at (mvP hZ (own_w hw 244 rfl) (args := #[]))) (mvT hZ (own_w hw 245 rfl)) (by decide) (backOf (W := 0) (rm24_1 l Z a0 hw [] a1 q2 q3 tf tt kf kt oS x0 y0 (T5.heap) n0 Z6 F8 F9 F10 F11 F12 F13 g1 g2 g3 n1 n2 n3 F14) hZ (own_w hw 245 rfl) (own_w hw 12 rfl) (by decide) (by decide)) (g := mkF m _ _ _) rfl (by rw [hml]; rfl) (Steps.refl _) (a := a1) qa16 qb16 (argsL := [(.long q2), (.long q3)]) (rest := []) (lenOf pd17_1_1 rfl) rfl (by show 2 * 0 + _ ≤ _; exact Nat.le_of_eq rfl) (H 10 rfl) (fun _ _ => ⟨rfl, rfl, (by decide : 12 + 0 ≤ _), (by decide : 48 + 0 ≤ _)⟩))
  dsimp only [Pt.U, Pt.locs, Pt.cells, Pt.slots] at X16 l16 y16 z16 g16 hQ16
  subst l16 y16 z16
  obtain ⟨rfl, Nq16, Kc16, Fs_16, Fv_16, Ff_16, Ft_16, Af_16, At_16⟩ := hQ16
  have N16 := Fr.app N5 Nq16
  have Z17 := Nat.le_trans Z6 Kc16.1
  have go18 := cv g16
  refine own_f0 (Q := Q17_1 Z a0 a1 q2 q3 a4 tf tt kf kt kn k1 oS I x0 y0 h0 n0) Bd.notSynchronized hx Bd.returns pre0 X16 go18 (H 11 rfl) rfl (by decide) (by decide) ?_
  have F19 := F8.keep Kc16
  have F20 := (arvS An (Kn5.2 _ ln)).keep Kc16 (ninS n4 (ninS n5 (ninS n6 nin0)))
  have M21_0 : T5.heap.size ≤ T5.heap.size := Nat.le_refl _
  have O21_0 : OUT k1 T5.heap.size T5.heap T5.heap := OUT.refl _ _ _
  have O21_1 : OUT k1 T5.heap.size T5.heap T16.heap := O21_0.keep Kc16 M21_0 (kw1 (Or.inl lp) (kw1 (Or.inl lf) (kw1 (Or.inl lt) kw0)))
  have M21_1 : T5.heap.size ≤ T16.heap.size := Nat.le_trans M21_0 Kc16.1
  have F22 := iv_5.same M21_1 O21_1
  exact ⟨rfl, N16, F19, Fv_16, Ff_16, Ft_16, Af_16, At_16, Fs_16, F20, F22, (Nat.le_trans Kn5.1 Kc16.1)⟩

theorem pn_17_2 : plainName "com/example/slackline/slackline/replay/Plan" = true := by first | (simp [plainName, overriddenIn]; done) | decide +kernel
theorem pd17_2_0 : parseMethodDescriptor "(JJ[II)V" = some ⟨[.long, .long, (.array .int), .int], none⟩ := by decide +kernel
theorem pd17_2_1 : parseMethodDescriptor "(JJ)V" = some ⟨[.long, .long], none⟩ := by decide +kernel
theorem ef_17_2 (m : MethodId) (x0 : Addr) (x1 : Int64) (x2 : Int64) (x3 : Addr) : entryFrame m #[(.ref x0), (.long x1), (.long x2), (.ref x3)] 6 = mkF m 0 #[vr x0, vj x1, .second, vj x2, .second, vr x3] [] := by first | (simp [entryFrame, mkF, argsToLocals, Value.category]; done) | rfl
def Q17_2 (Z : State) (a0 : Array Value) (a1 : Addr) (q2 : Int64) (q3 : Int64) (a4 : Addr) (tf : Addr) (tt : Addr) (kf : ClassId) (kt : ClassId) (kn : ClassId) (k1 : Nat) (oS : Addr) (I : Int) (x0 : Int64) (x1 : Int64) (y0 : Int64) (y1 : Int64) (h0 : Heap) (n0 : Nat) (v : Option Value) (h : Heap) (L : List Loc) : Prop := v = none ∧ Fr n0 L ∧ Exa Z h a1 c_5 ∧ Fld Z h a1 c_5 "version" "J" (.long 3) ∧ Fld Z h a1 c_5 "touchedFrom" "[J" (.ref tf) ∧ Fld Z h a1 c_5 "touchedTo" "[J" (.ref tt) ∧ Arv Z h tf kf .long (64 : Int32) ((.long x0) :: (.long x1) :: (.long q2) :: own_zl 61) (.long 0) ∧ Arv Z h tt kt .long (64 : Int32) ((.long y0) :: (.long y1) :: (.long q3) :: own_zl 61) (.long 0) ∧ Fld Z h a1 c_5 "steps" "Lcom/example/slackline/slackline/replay/Steps;" (.ref oS) ∧ Arv Z h a4 kn .int (1 : Int32) [(.int 1)] (.int 0) ∧ Inv Z a0 h k1 oS ((I + 1) + 1) ∧ (h0.size ≤ h.size)
set_option maxRecDepth 65536 in
set_option maxHeartbeats 40000000 in
theorem rm17_2 (l : Launch) (Z : State) (a0 : Array Value) (hw : ∀ d ∈ tables_1, d.before a0 Z = true) (ws : List Jvm.Cond) (a1 : Addr) (q2 : Int64) (q3 : Int64) (a4 : Addr) (tf : Addr) (tt : Addr) (kf : ClassId) (kt : ClassId) (kn : ClassId) (k1 : Nat) (oS : Addr) (I : Int) (x0 : Int64) (x1 : Int64) (y0 : Int64) (y1 : Int64) (h0 : Heap) (n0 : Nat) (Z0 : n0 ≤ h0.size) (E0 : Exa Z h0 a1 c_5) (Fv : Fld Z h0 a1 c_5 "version" "J" (.long 2)) (Ff : Fld Z h0 a1 c_5 "touchedFrom" "[J" (.ref tf)) (Ft : Fld Z h0 a1 c_5 "touchedTo" "[J" (.ref tt)) (Af : Arv Z h0 tf kf .long (64 : Int32) ((.long x0) :: (.long x1) :: own_zl 62) (.long 0)) (At : Arv Z h0 tt kt .long (64 : Int32) ((.long y0) :: (.long y1) :: own_zl 62) (.long 0)) (Fs : Fld Z h0 a1 c_5 "steps" "Lcom/example/slackline/slackline/replay/Steps;" (.ref oS)) (An : Arv Z h0 a4 kn .int (1 : Int32) [(.int 1)] (.int 0)) (iv : Inv Z a0 h0 k1 oS I) (hI : I ≤ 4) (lp : a1 < k1) (lf : tf < k1) (lt : tt < k1) (ln : a4 < k1) (hk : n0 ≤ k1) (g1 : n0 ≤ a1) (g2 : n0 ≤ tf) (g3 : n0 ≤ tt) (n1 : a1 ≠ tf) (n2 : a1 ≠ tt) (n3 : tf ≠ tt) (n4 : a4 ≠ a1) (n5 : a4 ≠ tf) (n6 : a4 ≠ tt) :
    MetFree l y_24 (head1 (Jvm.Cond.code y_24 prog_91_method_15_code 6 none :: ws) ({ frames := 4, cells := 12, slots := 48, locals := 81 } : Room)) (fun a U => a = #[(.ref a1), (.long q2), (.long q3), (.ref a4)] ∧ Z.Warmed39 U.vm ∧ U.heap = h0) (fun _ _ _ _ _ => True) (fun _ U o U' => ∃ v L, o = .returned v ∧ Q17_2 Z a0 a1 q2 q3 a4 tf tt kf kt kn k1 oS I x0 x1 y0 y1 h0 n0 v U'.heap L ∧ FrameEnd U o U' L ({ frames := 4, cells := 12, slots := 48, locals := 81 } : Room).cells ({ frames := 4, cells := 12, slots := 48, locals := 81 } : Room).slots) := by
  refine MetFree.of_bodySF (plainFor_of_name pn_17_2) hisR ?_
  intro p e s m args below meth c s₁ Bd hml0 hP hK
  obtain ⟨rfl, hZ, hh⟩ := hP
  have hx := Bd.exec
  have hby := Bd.bytes
  have hml : c.maxLocals = 6 := hml0
  have hown : s.vm.findClass "com/example/slackline/slackline/replay/Plan" = some m.cls := findClass_of_methodNamed Bd.named
  have hnm := (name_of_methodNamed Bd.named Bd.method).1
  have X0 : Stand p l e ({ frames := 4, cells := 12, slots := 48, locals := 81 } : Room) s m #[(.ref a1), (.long q2), (.long q3), (.ref a4)] below meth c s₁ [] 0 0 := Stand.of_body Bd
  have e0 : s₁.heap = h0 := by rw [← hh, Bd.state]; rfl
  have N0 := Fr.nil n0
  have H : ∀ (k : Nat) {i : Nat} {r : Instr × Nat}, dt17[k]? = some (i, r) → decode c.code i = .ok r := fun _ i r q => hb hby (dk17 (i, r) (List.mem_of_getElem? q))
  obtain ⟨F0, hF0⟩ : ∃ F : JFrame, F = entryFrame m #[(.ref a1), (.long q2), (.long q3), (.ref a4)] 6 := ⟨_, rfl⟩
  have pre0 : ∀ t, Steps p.tables e below (s₁.setTop F0) t → Steps p.tables e below (s₁.setTop (entryFrame m #[(.ref a1), (.long q2), (.long q3), (.ref a4)] 6)) t := fun t k => hF0 ▸ k
  have go0 : Go p e below s₁ F0 s₁ (mkF m 0 #[vr a1, vj q2, .second, vj q3, .second, vr a4] []) := fun t k => castTop (hF0.trans (ef_17_2 m a1 q2 q3 a4)) k
  have go1 := (s_aloadN go0 X0 hx (H 0 rfl) rfl rfl)
  obtain ⟨T2, X2, e2, go2⟩ := gF go1 X0 hx hZ hown (own_w hw 119 rfl) e0 Fs (H 1 rfl)
  have F3 := Inv.exa iv
  have go4 := (s_iconst (s_aload (s_lloadN (s_lloadN go2 X2 hx (H 2 rfl) rfl) X2 hx (H 3 rfl) rfl) X2 hx (H 4 rfl) rfl rfl) X2 hx (H 5 rfl) (v := 1) rfl)
  obtain ⟨cq5, kq5, qa5, qb5, qc5⟩ := isOf hZ e2 (F3)
  obtain ⟨_, _, ⟨T5, L5, k5, n5⟩, -, X5, ⟨Lc5, hQ5, l5, y5, z5⟩, g5⟩ := c_b go4 (X2.virtualBack hx (y := y_16) (z := y_16) hown (mvT hZ (own_w hw 206 rfl)) (mvT hZ (own_w hw 207 rfl)) (notFace_of_selects (args := #[]) (mvT hZ (own_w hw 209 rfl))) (mvT hZ (own_w hw 209 rfl)) (mvT hZ (own_w hw 208 rfl)) (by decide) (backOf (W := 0) (rm18 l Z a0 hw [] oS q2 q3 a4 I h0 k1 (Inv.ksz iv) iv hI (LI.of_arv An) ln) hZ (own_w hw 210 rfl) (own_w hw 41 rfl) (by decide) (by decide)) qa5 qc5 (g := mkF m _ _ _) rfl (by rw [hml]; rfl) (Steps.refl _) (argsL := [(.long q2), (.long q3), (.ref a4), (.int 1)]) (rest := []) (lenOf pd17_2_0 rfl) rfl (by show 2 * 0 + _ ≤ _; exact Nat.le_of_eq rfl) (H 6 rfl) (fun _ _ => ⟨rfl, e2, (by decide : 0 + 12 ≤ _), (by decide : 0 + 48 ≤ _)⟩))
  dsimp only [Pt.U, Pt.locs, Pt.cells, Pt.slots] at X5 l5 y5 z5 g5 hQ5
  subst l5 y5 z5
  obtain ⟨rfl, Nq5, Kn5, iv_5⟩ := hQ5
  have N5 := Fr.app N0 (Fr.mono Nq5 hk)
  have Z6 := Nat.le_trans Z0 Kn5.1
  have go7 := cv g5
  have F8 := exaS E0 (Kn5.2 _ lp)
  have F9 := fldS Fv (Kn5.2 _ lp)
  have F10 := fldS Ff (Kn5.2 _ lp)
  have F11 := fldS Ft (Kn5.2 _ lp)
  have F12 := arvS Af (Kn5.2 _ lf)
  have F13 := arvS At (Kn5.2 _ lt)
  have F14 := fldS Fs (Kn5.2 _ lp)
  have go15 := (s_lloadN (s_lloadN (s_aloadN go7 X5 hx (H 7 rfl) rfl rfl) X5 hx (H 8 rfl) rfl) X5 hx (H 9 rfl) rfl)
  obtain ⟨cq16, qa16, qb16⟩ := (F8).cell
  obtain ⟨_, _, ⟨T16, L16, k16, n16⟩, -, X16, ⟨Lc16, hQ16, l16, y16, z16⟩, g16⟩ := c_b go15 (X5.privateBack hx (y := y_23) hown (mvT hZ (own_w hw 242 rfl)) (mvT hZ (own_w hw 243 rfl)) (own_selp (mvT hZ (own_w hw 11 rfl)) (mvP hZ (own_w hw 244 rfl)) (mvT hZ (own_w hw 243 rfl)) (by decide)) (Cond.privateMethod_at (mvP hZ (own_w hw 244 rfl) (args := #[]))) (mvT hZ (own_w hw 245 rfl)) (by decide) (backOf (W := 0) (rm24_2 l Z a0 hw [] a1 q2 q3 tf tt kf kt oS x0 x1 y0 y1 (T5.heap) n0 Z6 F8 F9 F10 F11 F12 F13 g1 g2 g3 n1 n2 n3 F14) hZ (own_w hw 245 rfl) (own_w hw 12 rfl) (by decide) (by decide)) (g := mkF m _ _ _) rfl (by rw [hml]; rfl) (Steps.refl _) (a := a1) qa16 qb16 (argsL := [(.long q2), (.long q3)]) (rest := []) (lenOf pd17_2_1 rfl) rfl (by show 2 * 0 + _ ≤ _; exact Nat.le_of_eq rfl) (H 10 rfl) (fun _ _ => ⟨rfl, rfl, (by decide : 12 + 0 ≤ _), (by decide : 48 + 0 ≤ _)⟩))
  dsimp only [Pt.U, Pt.locs, Pt.cells, Pt.slots] at X16 l16 y16 z16 g16 hQ16
  subst l16 y16 z16
  obtain ⟨rfl, Nq16, Kc16, Fs_16, Fv_16, Ff_16, Ft_16, Af_16, At_16⟩ := hQ16
  have N16 := Fr.app N5 Nq16
  have Z17 := Nat.le_trans Z6 Kc16.1
  have go18 := cv g16
  refine own_f0 (Q := Q17_2 Z a0 a1 q2 q3 a4 tf tt kf kt kn k1 oS I x0 x1 y0 y1 h0 n0) Bd.notSynchronized hx Bd.returns pre0 X16 go18 (H 11 rfl) rfl (by decide) (by decide) ?_
  have F19 := F8.keep Kc16
  have F20 := (arvS An (Kn5.2 _ ln)).keep Kc16 (ninS n4 (ninS n5 (ninS n6 nin0)))
  have M21_0 : T5.heap.size ≤ T5.heap.size := Nat.le_refl _
  have O21_0 : OUT k1 T5.heap.size T5.heap T5.heap := OUT.refl _ _ _
  have O21_1 : OUT k1 T5.heap.size T5.heap T16.heap := O21_0.keep Kc16 M21_0 (kw1 (Or.inl lp) (kw1 (Or.inl lf) (kw1 (Or.inl lt) kw0)))
  have M21_1 : T5.heap.size ≤ T16.heap.size := Nat.le_trans M21_0 Kc16.1
  have F22 := iv_5.same M21_1 O21_1
  exact ⟨rfl, N16, F19, Fv_16, Ff_16, Ft_16, Af_16, At_16, Fs_16, F20, F22, (Nat.le_trans Kn5.1 Kc16.1)⟩

def dt28 : List (Nat × Instr × Nat) := [(0, .aload_n 0, 1), (1, .getfield 248, 3), (4, .lload_n 1, 1), (5, .lsub, 1), (6, .ldc2_w 252, 3), (9, .lcmp, 1), (10, .ifCond .le 5, 3), (13, .iconst 0, 1), (14, .ireturn, 1), (15, .lload_n 1, 1), (16, .lstore 7, 2), (18, .lload 7, 2), (20, .aload_n 0, 1), (21, .getfield 248, 3), (24, .lcmp, 1), (25, .ifCond .ge 48, 3), (28, .lload 7, 2), (30, .ldc2_w 252, 3), (33, .lrem, 1), (34, .l2i, 1), (35, .istore 9, 2), (37, .aload_n 0, 1), (38, .getfield 14, 3), (41, .iload 9, 2), (43, .laload, 1), (44, .lload 5, 2), (46, .lcmp, 1), (47, .ifCond .gt 17, 3), (50, .aload_n 0, 1), (51, .getfield 18, 3), (54, .iload 9, 2), (56, .laload, 1), (57, .lload_n 3, 1), (58, .lcmp, 1), (59, .ifCond .lt 5, 3), (62, .iconst 0, 1), (63, .ireturn, 1), (64, .lload 7, 2), (66, .lconst 1, 1), (67, .ladd, 1), (68, .lstore 7, 2), (70, .goto (-52), 3), (73, .iconst 1, 1), (74, .ireturn, 1)]
theorem dk28 : ∀ x ∈ dt28, decode prog_91_method_29_code x.1 = .ok x.2 := by decide +kernel
theorem pn_28_0 : plainName "com/example/slackline/slackline/replay/Plan" = true := by first | (simp [plainName, overriddenIn]; done) | decide +kernel
theorem ef_28_0 (m : MethodId) (x0 : Addr) (x2 : Int64) (x3 : Int64) : entryFrame m #[(.ref x0), (.long 0), (.long x2), (.long x3)] 10 = mkF m 0 #[vr x0, vj 0, .second, vj x2, .second, vj x3, .second, .unset, .unset, .unset] [] := by first | (simp [entryFrame, mkF, argsToLocals, Value.category]; done) | rfl
def f28_0 (q3 : Int64) (q4 : Int64) (x0 : Int64) (x1 : Int64) (x2 : Int64) (y0 : Int64) (y1 : Int64) (y2 : Int64) : Int32 := (if q4 < x0 then (if q4 < x1 then (if q4 < x2 then (1 : Int32) else (if y2 < q3 then (1 : Int32) else (0 : Int32))) else (if y1 < q3 then (if q4 < x2 then (1 : Int32) else (if y2 < q3 then (1 : Int32) else (0 : Int32))) else (0 : Int32))) else (if y0 < q3 then (if q4 < x1 then (if q4 < x2 then (1 : Int32) else (if y2 < q3 then (1 : Int32) else (0 : Int32))) else (if y1 < q3 then (if q4 < x2 then (1 : Int32) else (if y2 < q3 then (1 : Int32) else (0 : Int32))) else (0 : Int32))) else (0 : Int32)))
def Q28_0 (Z : State) (a0 : Array Value) (a1 : Addr) (q3 : Int64) (q4 : Int64) (tf : Addr) (tt : Addr) (kf : ClassId) (kt : ClassId) (x0 : Int64) (x1 : Int64) (x2 : Int64) (y0 : Int64) (y1 : Int64) (y2 : Int64) (h0 : Heap) (n0 : Nat) (v : Option Value) (h : Heap) (L : List Loc) : Prop := v = some (.int (f28_0 q3 q4 x0 x1 x2 y0 y1 y2)) ∧ Fr n0 L ∧ h = h0
set_option maxRecDepth 65536 in
set_option maxHeartbeats 40000000 in
theorem rm28_0 (l : Launch) (Z : State) (a0 : Array Value) (hw : ∀ d ∈ tables_1, d.before a0 Z = true) (ws : List Jvm.Cond) (a1 : Addr) (q3 : Int64) (q4 : Int64) (tf : Addr) (tt : Addr) (kf : ClassId) (kt : ClassId) (x0 : Int64) (x1 : Int64) (x2 : Int64) (y0 : Int64) (y1 : Int64) (y2 : Int64) (h0 : Heap) (n0 : Nat) (Z0 : n0 ≤ h0.size) (Fv : Fld Z h0 a1 c_5 "version" "J" (.long 3)) (Ff : Fld Z h0 a1 c_5 "touchedFrom" "[J" (.ref tf)) (Ft : Fld Z h0 a1 c_5 "touchedTo" "[J" (.ref tt)) (Af : Arv Z h0 tf kf .long (64 : Int32) ((.long x0) :: (.long x1) :: (.long x2) :: own_zl 61) (.long 0)) (At : Arv Z h0 tt kt .long (64 : Int32) ((.long y0) :: (.long y1) :: (.long y2) :: own_zl 61) (.long 0)) :
    MetFree l y_25 (head1 (Jvm.Cond.code y_25 prog_91_method_29_code 10 (some .boolean) :: ws) ({ frames := 0, cells := 0, slots := 0, locals := 0 } : Room)) (fun a U => a = #[(.ref a1), (.long 0), (.long q3), (.long q4)] ∧ Z.Warmed39 U.vm ∧ U.heap = h0) (fun _ _ _ _ _ => True) (fun _ U o U' => ∃ v L, o = .returned v ∧ Q28_0 Z a0 a1 q3 q4 tf tt kf kt x0 x1 x2 y0 y1 y2 h0 n0 v U'.heap L ∧ FrameEnd U o U' L ({ frames := 0, cells := 0, slots := 0, locals := 0 } : Room).cells ({ frames := 0, cells := 0, slots := 0, locals := 0 } : Room).slots) := by
  refine MetFree.of_bodySF (plainFor_of_name pn_28_0) hisR ?_
  intro p e s m args below meth c s₁ Bd hml0 hP hK
  obtain ⟨rfl, hZ, hh⟩ := hP
  have hx := Bd.exec
  have hby := Bd.bytes
  have hml : c.maxLocals = 10 := hml0
  have hown : s.vm.findClass "com/example/slackline/slackline/replay/Plan" = some m.cls := findClass_of_methodNamed Bd.named
  have hnm := (name_of_methodNamed Bd.named Bd.method).1
  have X0 : Stand p l e ({ frames := 0, cells := 0, slots := 0, locals := 0 } : Room) s m #[(.ref a1), (.long 0), (.long q3), (.long q4)] below meth c s₁ [] 0 0 := Stand.of_body Bd
  have e0 : s₁.heap = h0 := by rw [← hh, Bd.state]; rfl
  have N0 := Fr.nil n0
  have H : ∀ (k : Nat) {i : Nat} {r : Instr × Nat}, dt28[k]? = some (i, r) → decode c.code i = .ok r := fun _ i r q => hb hby (dk28 (i, r) (List.mem_of_getElem? q))
  obtain ⟨F0, hF0⟩ : ∃ F : JFrame, F = entryFrame m #[(.ref a1), (.long 0), (.long q3), (.long q4)] 10 := ⟨_, rfl⟩
  have pre0 : ∀ t, Steps p.tables e below (s₁.setTop F0) t → Steps p.tables e below (s₁.setTop (entryFrame m #[(.ref a1), (.long 0), (.long q3), (.long q4)] 10)) t := fun t k => hF0 ▸ k
  have go0 : Go p e below s₁ F0 s₁ (mkF m 0 #[vr a1, vj 0, .second, vj q3, .second, vj q4, .second, .unset, .unset, .unset] []) := fun t k => castTop (hF0.trans (ef_28_0 m a1 q3 q4)) k
  have go1 := (s_aloadN go0 X0 hx (H 0 rfl) rfl rfl)
  obtain ⟨T2, X2, e2, go2⟩ := gF go1 X0 hx hZ hown (own_w hw 246 rfl) e0 Fv (H 1 rfl)
  have go3 := (s_aloadN (s_lload (s_lstore (s_lloadN (s_ifYes (s_lcmp (s_ldc2 (s_lsubE (s_lloadN go2 X2 hx (H 2 rfl) rfl) X2 hx (H 3 rfl) (v := 3) rfl) X2 hx hown (mvT hZ (own_w hw 248 rfl)) (H 4 rfl)) X2 hx (H 5 rfl)) X2 hx (H 6 rfl) (pc' := 15) rfl (by decide) ((if0 _ _).trans (flt (fun q => (by decide : ¬ ((64 : Int64) < 3)) ((lw_gt _ _).mp q))).2.2.2)) X2 hx (H 9 rfl) rfl) X2 hx (H 10 rfl) (L' := #[vr a1, vj 0, .second, vj q3, .second, vj q4, .second, vj 0, .second, .unset]) rfl) X2 hx (H 11 rfl) rfl) X2 hx (H 12 rfl) rfl rfl)
  obtain ⟨T4, X4, e4, go4⟩ := gF go3 X2 hx hZ hown (own_w hw 246 rfl) e2 Fv (H 13 rfl)
  have go5 := (s_aloadN (s_istore (s_l2iE (s_lremE (s_ldc2 (s_lload (s_ifNo (s_lcmp go4 X4 hx (H 14 rfl)) X4 hx (H 15 rfl) ((if0 _ _).trans (tlt ((lw_lt _ _).mpr (by decide : (0 : Int64) < 3))).2.1)) X4 hx (H 16 rfl) rfl) X4 hx hown (mvT hZ (own_w hw 248 rfl)) (H 17 rfl)) X4 hx (H 18 rfl) (by decide) (v := 0) rfl) X4 hx (H 19 rfl) (v := 0) rfl) X4 hx (H 20 rfl) (L' := #[vr a1, vj 0, .second, vj q3, .second, vj q4, .second, vj 0, .second, vi 0]) rfl) X4 hx (H 21 rfl) rfl rfl)
  obtain ⟨T6, X6, e6, go6⟩ := gF go5 X4 hx hZ hown (own_w hw 20 rfl) e4 Ff (H 22 rfl)
  have go7 := (s_iload go6 X6 hx (H 23 rfl) rfl)
  obtain ⟨cl8, Ar8, -, Sz8, Nn8, Hs8, -⟩ := id Af
  have hin8 : ¬ ((0 : Int32) < 0 ∨ cl8.slots.size ≤ ((0 : Int32)).toNatClampNeg) := inb_of Sz8 ⟨by decide, by decide⟩
  have hat8 : cl8.slots[((0 : Int32)).toNatClampNeg]? = some (.long x0) := Hs8.at hin8 rfl
  have go9 := (s_lcmp (s_lload (s_laload go7 X6 hx hZ e6 Ar8 hin8 hat8 (H 24 rfl)) X6 hx (H 25 rfl) rfl) X6 hx (H 26 rfl))
  by_cases hc47_10 : q4 < x0
  ·have go11 := (s_aloadN (s_lload (s_goto (s_lstore (s_laddE (s_lconst (s_lload (s_ifYes go9 X6 hx (H 27 rfl) (pc' := 64) rfl (by decide) ((if0 _ _).trans (tlt ((lw_gt _ _).mpr hc47_10)).2.2.1)) X6 hx (H 37 rfl) rfl) X6 hx (H 38 rfl) (v := 1) rfl) X6 hx (H 39 rfl) (v := 1) rfl) X6 hx (H 40 rfl) (L' := #[vr a1, vj 0, .second, vj q3, .second, vj q4, .second, vj 1, .second, vi 0]) rfl) X6 hx (H 41 rfl) (pc' := 18) rfl (by decide)) X6 hx (H 11 rfl) rfl) X6 hx (H 12 rfl) rfl rfl)
   obtain ⟨T12, X12, e12, go12⟩ := gF go11 X6 hx hZ hown (own_w hw 246 rfl) e6 Fv (H 13 rfl)
   have go13 := (s_aloadN (s_istore (s_l2iE (s_lremE (s_ldc2 (s_lload (s_ifNo (s_lcmp go12 X12 hx (H 14 rfl)) X12 hx (H 15 rfl) ((if0 _ _).trans (tlt ((lw_lt _ _).mpr (by decide : (1 : Int64) < 3))).2.1)) X12 hx (H 16 rfl) rfl) X12 hx hown (mvT hZ (own_w hw 248 rfl)) (H 17 rfl)) X12 hx (H 18 rfl) (by decide) (v := 1) rfl) X12 hx (H 19 rfl) (v := 1) rfl) X12 hx (H 20 rfl) (L' := #[vr a1, vj 0, .second, vj q3, .second, vj q4, .second, vj 1, .second, vi 1]) rfl) X12 hx (H 21 rfl) rfl rfl)
   obtain ⟨T14, X14, e14, go14⟩ := gF go13 X12 hx hZ hown (own_w hw 20 rfl) e12 Ff (H 22 rfl)
   have go15 := (s_iload go14 X14 hx (H 23 rfl) rfl)
   obtain ⟨cl16, Ar16, -, Sz16, Nn16, Hs16, -⟩ := id Af
   have hin16 : ¬ ((1 : Int32) < 0 ∨ cl16.slots.size ≤ ((1 : Int32)).toNatClampNeg) := inb_of Sz16 ⟨by decide, by decide⟩
   have hat16 : cl16.slots[((1 : Int32)).toNatClampNeg]? = some (.long x1) := Hs16.at hin16 rfl
   have go17 := (s_lcmp (s_lload (s_laload go15 X14 hx hZ e14 Ar16 hin16 hat16 (H 24 rfl)) X14 hx (H 25 rfl) rfl) X14 hx (H 26 rfl))
   by_cases hc47_18 : q4 < x1
   ·have go19 := (s_aloadN (s_lload (s_goto (s_lstore (s_laddE (s_lconst (s_lload (s_ifYes go17 X14 hx (H 27 rfl) (pc' := 64) rfl (by decide) ((if0 _ _).trans (tlt ((lw_gt _ _).mpr hc47_18)).2.2.1)) X14 hx (H 37 rfl) rfl) X14 hx (H 38 rfl) (v := 1) rfl) X14 hx (H 39 rfl) (v := 2) rfl) X14 hx (H 40 rfl) (L' := #[vr a1, vj 0, .second, vj q3, .second, vj q4, .second, vj 2, .second, vi 1]) rfl) X14 hx (H 41 rfl) (pc' := 18) rfl (by decide)) X14 hx (H 11 rfl) rfl) X14 hx (H 12 rfl) rfl rfl)
    obtain ⟨T20, X20, e20, go20⟩ := gF go19 X14 hx hZ hown (own_w hw 246 rfl) e14 Fv (H 13 rfl)
    have go21 := (s_aloadN (s_istore (s_l2iE (s_lremE (s_ldc2 (s_lload (s_ifNo (s_lcmp go20 X20 hx (H 14 rfl)) X20 hx (H 15 rfl) ((if0 _ _).trans (tlt ((lw_lt _ _).mpr (by decide : (2 : Int64) < 3))).2.1)) X20 hx (H 16 rfl) rfl) X20 hx hown (mvT hZ (own_w hw 248 rfl)) (H 17 rfl)) X20 hx (H 18 rfl) (by decide) (v := 2) rfl) X20 hx (H 19 rfl) (v := 2) rfl) X20 hx (H 20 rfl) (L' := #[vr a1, vj 0, .second, vj q3, .second, vj q4, .second, vj 2, .second, vi 2]) rfl) X20 hx (H 21 rfl) rfl rfl)
    obtain ⟨T22, X22, e22, go22⟩ := gF go21 X20 hx hZ hown (own_w hw 20 rfl) e20 Ff (H 22 rfl)
    have go23 := (s_iload go22 X22 hx (H 23 rfl) rfl)
    obtain ⟨cl24, Ar24, -, Sz24, Nn24, Hs24, -⟩ := id Af
    have hin24 : ¬ ((2 : Int32) < 0 ∨ cl24.slots.size ≤ ((2 : Int32)).toNatClampNeg) := inb_of Sz24 ⟨by decide, by decide⟩
    have hat24 : cl24.slots[((2 : Int32)).toNatClampNeg]? = some (.long x2) := Hs24.at hin24 rfl
    have go25 := (s_lcmp (s_lload (s_laload go23 X22 hx hZ e22 Ar24 hin24 hat24 (H 24 rfl)) X22 hx (H 25 rfl) rfl) X22 hx (H 26 rfl))
    by_cases hc47_26 : q4 < x2
    ·have go27 := (s_aloadN (s_lload (s_goto (s_lstore (s_laddE (s_lconst (s_lload (s_ifYes go25 X22 hx (H 27 rfl) (pc' := 64) rfl (by decide) ((if0 _ _).trans (tlt ((lw_gt _ _).mpr hc47_26)).2.2.1)) X22 hx (H 37 rfl) rfl) X22 hx (H 38 rfl) (v := 1) rfl) X22 hx (H 39 rfl) (v := 3) rfl) X22 hx (H 40 rfl) (L' := #[vr a1, vj 0, .second, vj q3, .second, vj q4, .second, vj 3, .second, vi 2]) rfl) X22 hx (H 41 rfl) (pc' := 18) rfl (by decide)) X22 hx (H 11 rfl) rfl) X22 hx (H 12 rfl) rfl rfl)
     obtain ⟨T28, X28, e28, go28⟩ := gF go27 X22 hx hZ hown (own_w hw 246 rfl) e22 Fv (H 13 rfl)
     have go29 := (s_iconst (s_ifYes (s_lcmp go28 X28 hx (H 14 rfl)) X28 hx (H 15 rfl) (pc' := 73) rfl (by decide) ((if0 _ _).trans (flt (fun q => (by decide : ¬ ((3 : Int64) < 3)) ((lw_lt _ _).mp q))).2.1)) X28 hx (H 42 rfl) (v := 1) rfl)
     refine own_fZ (Q := Q28_0 Z a0 a1 q3 q4 tf tt kf kt x0 x1 x2 y0 y1 y2 h0 n0) Bd.notSynchronized hx Bd.returns pre0 X28 go29 (H 43 rfl) e28 (by decide) (by decide) (zz := (1 : Int32)) rfl ?_
     exact ⟨(congrArg (fun z => some (Value.int z)) (show (1 : Int32) = f28_0 q3 q4 x0 x1 x2 y0 y1 y2 from by unfold f28_0; rw [if_pos hc47_10, if_pos hc47_18, if_pos hc47_26])), N0, rfl⟩
    have go30 := (s_aloadN (s_ifNo go25 X22 hx (H 27 rfl) ((if0 _ _).trans (flt (fun q => hc47_26 ((lw_gt _ _).mp q))).2.2.1)) X22 hx (H 28 rfl) rfl rfl)
    obtain ⟨T31, X31, e31, go31⟩ := gF go30 X22 hx hZ hown (own_w hw 22 rfl) e22 Ft (H 29 rfl)
    have go32 := (s_iload go31 X31 hx (H 30 rfl) rfl)
    obtain ⟨cl33, Ar33, -, Sz33, Nn33, Hs33, -⟩ := id At
    have hin33 : ¬ ((2 : Int32) < 0 ∨ cl33.slots.size ≤ ((2 : Int32)).toNatClampNeg) := inb_of Sz33 ⟨by decide, by decide⟩
    have hat33 : cl33.slots[((2 : Int32)).toNatClampNeg]? = some (.long y2) := Hs33.at hin33 rfl
    have go34 := (s_lcmp (s_lloadN (s_laload go32 X31 hx hZ e31 Ar33 hin33 hat33 (H 31 rfl)) X31 hx (H 32 rfl) rfl) X31 hx (H 33 rfl))
    by_cases hc59_35 : y2 < q3
    ·have go36 := (s_aloadN (s_lload (s_goto (s_lstore (s_laddE (s_lconst (s_lload (s_ifYes go34 X31 hx (H 34 rfl) (pc' := 64) rfl (by decide) ((if0 _ _).trans (tlt ((lw_lt _ _).mpr hc59_35)).1)) X31 hx (H 37 rfl) rfl) X31 hx (H 38 rfl) (v := 1) rfl) X31 hx (H 39 rfl) (v := 3) rfl) X31 hx (H 40 rfl) (L' := #[vr a1, vj 0, .second, vj q3, .second, vj q4, .second, vj 3, .second, vi 2]) rfl) X31 hx (H 41 rfl) (pc' := 18) rfl (by decide)) X31 hx (H 11 rfl) rfl) X31 hx (H 12 rfl) rfl rfl)
     obtain ⟨T37, X37, e37, go37⟩ := gF go36 X31 hx hZ hown (own_w hw 246 rfl) e31 Fv (H 13 rfl)
     have go38 := (s_iconst (s_ifYes (s_lcmp go37 X37 hx (H 14 rfl)) X37 hx (H 15 rfl) (pc' := 73) rfl (by decide) ((if0 _ _).trans (flt (fun q => (by decide : ¬ ((3 : Int64) < 3)) ((lw_lt _ _).mp q))).2.1)) X37 hx (H 42 rfl) (v := 1) rfl)
     refine own_fZ (Q := Q28_0 Z a0 a1 q3 q4 tf tt kf kt x0 x1 x2 y0 y1 y2 h0 n0) Bd.notSynchronized hx Bd.returns pre0 X37 go38 (H 43 rfl) e37 (by decide) (by decide) (zz := (1 : Int32)) rfl ?_
     exact ⟨(congrArg (fun z => some (Value.int z)) (show (1 : Int32) = f28_0 q3 q4 x0 x1 x2 y0 y1 y2 from by unfold f28_0; rw [if_pos hc47_10, if_pos hc47_18, if_neg hc47_26, if_pos hc59_35])), N0, rfl⟩
    have go39 := (s_iconst (s_ifNo go34 X31 hx (H 34 rfl) ((if0 _ _).trans (flt (fun q => hc59_35 ((lw_lt _ _).mp q))).1)) X31 hx (H 35 rfl) (v := 0) rfl)
    refine own_fZ (Q := Q28_0 Z a0 a1 q3 q4 tf tt kf kt x0 x1 x2 y0 y1 y2 h0 n0) Bd.notSynchronized hx Bd.returns pre0 X31 go39 (H 36 rfl) e31 (by decide) (by decide) (zz := (0 : Int32)) rfl ?_
    exact ⟨(congrArg (fun z => some (Value.int z)) (show (0 : Int32) = f28_0 q3 q4 x0 x1 x2 y0 y1 y2 from by unfold f28_0; rw [if_pos hc47_10, if_pos hc47_18, if_neg hc47_26, if_neg hc59_35])), N0, rfl⟩
   have go40 := (s_aloadN (s_ifNo go17 X14 hx (H 27 rfl) ((if0 _ _).trans (flt (fun q => hc47_18 ((lw_gt _ _).mp q))).2.2.1)) X14 hx (H 28 rfl) rfl rfl)
   obtain ⟨T41, X41, e41, go41⟩ := gF go40 X14 hx hZ hown (own_w hw 22 rfl) e14 Ft (H 29 rfl)
   have go42 := (s_iload go41 X41 hx (H 30 rfl) rfl)
   obtain ⟨cl43, Ar43, -, Sz43, Nn43, Hs43, -⟩ := id At
   have hin43 : ¬ ((1 : Int32) < 0 ∨ cl43.slots.size ≤ ((1 : Int32)).toNatClampNeg) := inb_of Sz43 ⟨by decide, by decide⟩
   have hat43 : cl43.slots[((1 : Int32)).toNatClampNeg]? = some (.long y1) := Hs43.at hin43 rfl
   have go44 := (s_lcmp (s_lloadN (s_laload go42 X41 hx hZ e41 Ar43 hin43 hat43 (H 31 rfl)) X41 hx (H 32 rfl) rfl) X41 hx (H 33 rfl))
   by_cases hc59_45 : y1 < q3
   ·have go46 := (s_aloadN (s_lload (s_goto (s_lstore (s_laddE (s_lconst (s_lload (s_ifYes go44 X41 hx (H 34 rfl) (pc' := 64) rfl (by decide) ((if0 _ _).trans (tlt ((lw_lt _ _).mpr hc59_45)).1)) X41 hx (H 37 rfl) rfl) X41 hx (H 38 rfl) (v := 1) rfl) X41 hx (H 39 rfl) (v := 2) rfl) X41 hx (H 40 rfl) (L' := #[vr a1, vj 0, .second, vj q3, .second, vj q4, .second, vj 2, .second, vi 1]) rfl) X41 hx (H 41 rfl) (pc' := 18) rfl (by decide)) X41 hx (H 11 rfl) rfl) X41 hx (H 12 rfl) rfl rfl)
    obtain ⟨T47, X47, e47, go47⟩ := gF go46 X41 hx hZ hown (own_w hw 246 rfl) e41 Fv (H 13 rfl)
    have go48 := (s_aloadN (s_istore (s_l2iE (s_lremE (s_ldc2 (s_lload (s_ifNo (s_lcmp go47 X47 hx (H 14 rfl)) X47 hx (H 15 rfl) ((if0 _ _).trans (tlt ((lw_lt _ _).mpr (by decide : (2 : Int64) < 3))).2.1)) X47 hx (H 16 rfl) rfl) X47 hx hown (mvT hZ (own_w hw 248 rfl)) (H 17 rfl)) X47 hx (H 18 rfl) (by decide) (v := 2) rfl) X47 hx (H 19 rfl) (v := 2) rfl) X47 hx (H 20 rfl) (L' := #[vr a1, vj 0, .second, vj q3, .second, vj q4, .second, vj 2, .second, vi 2]) rfl) X47 hx (H 21 rfl) rfl rfl)
    obtain ⟨T49, X49, e49, go49⟩ := gF go48 X47 hx hZ hown (own_w hw 20 rfl) e47 Ff (H 22 rfl)
    have go50 := (s_iload go49 X49 hx (H 23 rfl) rfl)
    obtain ⟨cl51, Ar51, -, Sz51, Nn51, Hs51, -⟩ := id Af
    have hin51 : ¬ ((2 : Int32) < 0 ∨ cl51.slots.size ≤ ((2 : Int32)).toNatClampNeg) := inb_of Sz51 ⟨by decide, by decide⟩
    have hat51 : cl51.slots[((2 : Int32)).toNatClampNeg]? = some (.long x2) := Hs51.at hin51 rfl
    have go52 := (s_lcmp (s_lload (s_laload go50 X49 hx hZ e49 Ar51 hin51 hat51 (H 24 rfl)) X49 hx (H 25 rfl) rfl) X49 hx (H 26 rfl))
    by_cases hc47_53 : q4 < x2
    ·have go54 := (s_aloadN (s_lload (s_goto (s_lstore (s_laddE (s_lconst (s_lload (s_ifYes go52 X49 hx (H 27 rfl) (pc' := 64) rfl (by decide) ((if0 _ _).trans (tlt ((lw_gt _ _).mpr hc47_53)).2.2.1)) X49 hx (H 37 rfl) rfl) X49 hx (H 38 rfl) (v := 1) rfl) X49 hx (H 39 rfl) (v := 3) rfl) X49 hx (H 40 rfl) (L' := #[vr a1, vj 0, .second, vj q3, .second, vj q4, .second, vj 3, .second, vi 2]) rfl) X49 hx (H 41 rfl) (pc' := 18) rfl (by decide)) X49 hx (H 11 rfl) rfl) X49 hx (H 12 rfl) rfl rfl)
     obtain ⟨T55, X55, e55, go55⟩ := gF go54 X49 hx hZ hown (own_w hw 246 rfl) e49 Fv (H 13 rfl)
     have go56 := (s_iconst (s_ifYes (s_lcmp go55 X55 hx (H 14 rfl)) X55 hx (H 15 rfl) (pc' := 73) rfl (by decide) ((if0 _ _).trans (flt (fun q => (by decide : ¬ ((3 : Int64) < 3)) ((lw_lt _ _).mp q))).2.1)) X55 hx (H 42 rfl) (v := 1) rfl)
     refine own_fZ (Q := Q28_0 Z a0 a1 q3 q4 tf tt kf kt x0 x1 x2 y0 y1 y2 h0 n0) Bd.notSynchronized hx Bd.returns pre0 X55 go56 (H 43 rfl) e55 (by decide) (by decide) (zz := (1 : Int32)) rfl ?_
     exact ⟨(congrArg (fun z => some (Value.int z)) (show (1 : Int32) = f28_0 q3 q4 x0 x1 x2 y0 y1 y2 from by unfold f28_0; rw [if_pos hc47_10, if_neg hc47_18, if_pos hc59_45, if_pos hc47_53])), N0, rfl⟩
    have go57 := (s_aloadN (s_ifNo go52 X49 hx (H 27 rfl) ((if0 _ _).trans (flt (fun q => hc47_53 ((lw_gt _ _).mp q))).2.2.1)) X49 hx (H 28 rfl) rfl rfl)
    obtain ⟨T58, X58, e58, go58⟩ := gF go57 X49 hx hZ hown (own_w hw 22 rfl) e49 Ft (H 29 rfl)
    have go59 := (s_iload go58 X58 hx (H 30 rfl) rfl)
    obtain ⟨cl60, Ar60, -, Sz60, Nn60, Hs60, -⟩ := id At
    have hin60 : ¬ ((2 : Int32) < 0 ∨ cl60.slots.size ≤ ((2 : Int32)).toNatClampNeg) := inb_of Sz60 ⟨by decide, by decide⟩
    have hat60 : cl60.slots[((2 : Int32)).toNatClampNeg]? = some (.long y2) := Hs60.at hin60 rfl
    have go61 := (s_lcmp (s_lloadN (s_laload go59 X58 hx hZ e58 Ar60 hin60 hat60 (H 31 rfl)) X58 hx (H 32 rfl) rfl) X58 hx (H 33 rfl))
    by_cases hc59_62 : y2 < q3
    ·have go63 := (s_aloadN (s_lload (s_goto (s_lstore (s_laddE (s_lconst (s_lload (s_ifYes go61 X58 hx (H 34 rfl) (pc' := 64) rfl (by decide) ((if0 _ _).trans (tlt ((lw_lt _ _).mpr hc59_62)).1)) X58 hx (H 37 rfl) rfl) X58 hx (H 38 rfl) (v := 1) rfl) X58 hx (H 39 rfl) (v := 3) rfl) X58 hx (H 40 rfl) (L' := #[vr a1, vj 0, .second, vj q3, .second, vj q4, .second, vj 3, .second, vi 2]) rfl) X58 hx (H 41 rfl) (pc' := 18) rfl (by decide)) X58 hx (H 11 rfl) rfl) X58 hx (H 12 rfl) rfl rfl)
     obtain ⟨T64, X64, e64, go64⟩ := gF go63 X58 hx hZ hown (own_w hw 246 rfl) e58 Fv (H 13 rfl)
     have go65 := (s_iconst (s_ifYes (s_lcmp go64 X64 hx (H 14 rfl)) X64 hx (H 15 rfl) (pc' := 73) rfl (by decide) ((if0 _ _).trans (flt (fun q => (by decide : ¬ ((3 : Int64) < 3)) ((lw_lt _ _).mp q))).2.1)) X64 hx (H 42 rfl) (v := 1) rfl)
     refine own_fZ (Q := Q28_0 Z a0 a1 q3 q4 tf tt kf kt x0 x1 x2 y0 y1 y2 h0 n0) Bd.notSynchronized hx Bd.returns pre0 X64 go65 (H 43 rfl) e64 (by decide) (by decide) (zz := (1 : Int32)) rfl ?_
     exact ⟨(congrArg (fun z => some (Value.int z)) (show (1 : Int32) = f28_0 q3 q4 x0 x1 x2 y0 y1 y2 from by unfold f28_0; rw [if_pos hc47_10, if_neg hc47_18, if_pos hc59_45, if_neg hc47_53, if_pos hc59_62])), N0, rfl⟩
    have go66 := (s_iconst (s_ifNo go61 X58 hx (H 34 rfl) ((if0 _ _).trans (flt (fun q => hc59_62 ((lw_lt _ _).mp q))).1)) X58 hx (H 35 rfl) (v := 0) rfl)
    refine own_fZ (Q := Q28_0 Z a0 a1 q3 q4 tf tt kf kt x0 x1 x2 y0 y1 y2 h0 n0) Bd.notSynchronized hx Bd.returns pre0 X58 go66 (H 36 rfl) e58 (by decide) (by decide) (zz := (0 : Int32)) rfl ?_
    exact ⟨(congrArg (fun z => some (Value.int z)) (show (0 : Int32) = f28_0 q3 q4 x0 x1 x2 y0 y1 y2 from by unfold f28_0; rw [if_pos hc47_10, if_neg hc47_18, if_pos hc59_45, if_neg hc47_53, if_neg hc59_62])), N0, rfl⟩
   have go67 := (s_iconst (s_ifNo go44 X41 hx (H 34 rfl) ((if0 _ _).trans (flt (fun q => hc59_45 ((lw_lt _ _).mp q))).1)) X41 hx (H 35 rfl) (v := 0) rfl)
   refine own_fZ (Q := Q28_0 Z a0 a1 q3 q4 tf tt kf kt x0 x1 x2 y0 y1 y2 h0 n0) Bd.notSynchronized hx Bd.returns pre0 X41 go67 (H 36 rfl) e41 (by decide) (by decide) (zz := (0 : Int32)) rfl ?_
   exact ⟨(congrArg (fun z => some (Value.int z)) (show (0 : Int32) = f28_0 q3 q4 x0 x1 x2 y0 y1 y2 from by unfold f28_0; rw [if_pos hc47_10, if_neg hc47_18, if_neg hc59_45])), N0, rfl⟩
  have go68 := (s_aloadN (s_ifNo go9 X6 hx (H 27 rfl) ((if0 _ _).trans (flt (fun q => hc47_10 ((lw_gt _ _).mp q))).2.2.1)) X6 hx (H 28 rfl) rfl rfl)
  obtain ⟨T69, X69, e69, go69⟩ := gF go68 X6 hx hZ hown (own_w hw 22 rfl) e6 Ft (H 29 rfl)
  have go70 := (s_iload go69 X69 hx (H 30 rfl) rfl)
  obtain ⟨cl71, Ar71, -, Sz71, Nn71, Hs71, -⟩ := id At
  have hin71 : ¬ ((0 : Int32) < 0 ∨ cl71.slots.size ≤ ((0 : Int32)).toNatClampNeg) := inb_of Sz71 ⟨by decide, by decide⟩
  have hat71 : cl71.slots[((0 : Int32)).toNatClampNeg]? = some (.long y0) := Hs71.at hin71 rfl
  have go72 := (s_lcmp (s_lloadN (s_laload go70 X69 hx hZ e69 Ar71 hin71 hat71 (H 31 rfl)) X69 hx (H 32 rfl) rfl) X69 hx (H 33 rfl))
  by_cases hc59_73 : y0 < q3
  ·have go74 := (s_aloadN (s_lload (s_goto (s_lstore (s_laddE (s_lconst (s_lload (s_ifYes go72 X69 hx (H 34 rfl) (pc' := 64) rfl (by decide) ((if0 _ _).trans (tlt ((lw_lt _ _).mpr hc59_73)).1)) X69 hx (H 37 rfl) rfl) X69 hx (H 38 rfl) (v := 1) rfl) X69 hx (H 39 rfl) (v := 1) rfl) X69 hx (H 40 rfl) (L' := #[vr a1, vj 0, .second, vj q3, .second, vj q4, .second, vj 1, .second, vi 0]) rfl) X69 hx (H 41 rfl) (pc' := 18) rfl (by decide)) X69 hx (H 11 rfl) rfl) X69 hx (H 12 rfl) rfl rfl)
   obtain ⟨T75, X75, e75, go75⟩ := gF go74 X69 hx hZ hown (own_w hw 246 rfl) e69 Fv (H 13 rfl)
   have go76 := (s_aloadN (s_istore (s_l2iE (s_lremE (s_ldc2 (s_lload (s_ifNo (s_lcmp go75 X75 hx (H 14 rfl)) X75 hx (H 15 rfl) ((if0 _ _).trans (tlt ((lw_lt _ _).mpr (by decide : (1 : Int64) < 3))).2.1)) X75 hx (H 16 rfl) rfl) X75 hx hown (mvT hZ (own_w hw 248 rfl)) (H 17 rfl)) X75 hx (H 18 rfl) (by decide) (v := 1) rfl) X75 hx (H 19 rfl) (v := 1) rfl) X75 hx (H 20 rfl) (L' := #[vr a1, vj 0, .second, vj q3, .second, vj q4, .second, vj 1, .second, vi 1]) rfl) X75 hx (H 21 rfl) rfl rfl)
   obtain ⟨T77, X77, e77, go77⟩ := gF go76 X75 hx hZ hown (own_w hw 20 rfl) e75 Ff (H 22 rfl)
   have go78 := (s_iload go77 X77 hx (H 23 rfl) rfl)
   obtain ⟨cl79, Ar79, -, Sz79, Nn79, Hs79, -⟩ := id Af
   have hin79 : ¬ ((1 : Int32) < 0 ∨ cl79.slots.size ≤ ((1 : Int32)).toNatClampNeg) := inb_of Sz79 ⟨by decide, by decide⟩
   have hat79 : cl79.slots[((1 : Int32)).toNatClampNeg]? = some (.long x1) := Hs79.at hin79 rfl
   have go80 := (s_lcmp (s_lload (s_laload go78 X77 hx hZ e77 Ar79 hin79 hat79 (H 24 rfl)) X77 hx (H 25 rfl) rfl) X77 hx (H 26 rfl))
   by_cases hc47_81 : q4 < x1
   ·have go82 := (s_aloadN (s_lload (s_goto (s_lstore (s_laddE (s_lconst (s_lload (s_ifYes go80 X77 hx (H 27 rfl) (pc' := 64) rfl (by decide) ((if0 _ _).trans (tlt ((lw_gt _ _).mpr hc47_81)).2.2.1)) X77 hx (H 37 rfl) rfl) X77 hx (H 38 rfl) (v := 1) rfl) X77 hx (H 39 rfl) (v := 2) rfl) X77 hx (H 40 rfl) (L' := #[vr a1, vj 0, .second, vj q3, .second, vj q4, .second, vj 2, .second, vi 1]) rfl) X77 hx (H 41 rfl) (pc' := 18) rfl (by decide)) X77 hx (H 11 rfl) rfl) X77 hx (H 12 rfl) rfl rfl)
    obtain ⟨T83, X83, e83, go83⟩ := gF go82 X77 hx hZ hown (own_w hw 246 rfl) e77 Fv (H 13 rfl)
    have go84 := (s_aloadN (s_istore (s_l2iE (s_lremE (s_ldc2 (s_lload (s_ifNo (s_lcmp go83 X83 hx (H 14 rfl)) X83 hx (H 15 rfl) ((if0 _ _).trans (tlt ((lw_lt _ _).mpr (by decide : (2 : Int64) < 3))).2.1)) X83 hx (H 16 rfl) rfl) X83 hx hown (mvT hZ (own_w hw 248 rfl)) (H 17 rfl)) X83 hx (H 18 rfl) (by decide) (v := 2) rfl) X83 hx (H 19 rfl) (v := 2) rfl) X83 hx (H 20 rfl) (L' := #[vr a1, vj 0, .second, vj q3, .second, vj q4, .second, vj 2, .second, vi 2]) rfl) X83 hx (H 21 rfl) rfl rfl)
    obtain ⟨T85, X85, e85, go85⟩ := gF go84 X83 hx hZ hown (own_w hw 20 rfl) e83 Ff (H 22 rfl)
    have go86 := (s_iload go85 X85 hx (H 23 rfl) rfl)
    obtain ⟨cl87, Ar87, -, Sz87, Nn87, Hs87, -⟩ := id Af
    have hin87 : ¬ ((2 : Int32) < 0 ∨ cl87.slots.size ≤ ((2 : Int32)).toNatClampNeg) := inb_of Sz87 ⟨by decide, by decide⟩
    have hat87 : cl87.slots[((2 : Int32)).toNatClampNeg]? = some (.long x2) := Hs87.at hin87 rfl
    have go88 := (s_lcmp (s_lload (s_laload go86 X85 hx hZ e85 Ar87 hin87 hat87 (H 24 rfl)) X85 hx (H 25 rfl) rfl) X85 hx (H 26 rfl))
    by_cases hc47_89 : q4 < x2
    ·have go90 := (s_aloadN (s_lload (s_goto (s_lstore (s_laddE (s_lconst (s_lload (s_ifYes go88 X85 hx (H 27 rfl) (pc' := 64) rfl (by decide) ((if0 _ _).trans (tlt ((lw_gt _ _).mpr hc47_89)).2.2.1)) X85 hx (H 37 rfl) rfl) X85 hx (H 38 rfl) (v := 1) rfl) X85 hx (H 39 rfl) (v := 3) rfl) X85 hx (H 40 rfl) (L' := #[vr a1, vj 0, .second, vj q3, .second, vj q4, .second, vj 3, .second, vi 2]) rfl) X85 hx (H 41 rfl) (pc' := 18) rfl (by decide)) X85 hx (H 11 rfl) rfl) X85 hx (H 12 rfl) rfl rfl)
     obtain ⟨T91, X91, e91, go91⟩ := gF go90 X85 hx hZ hown (own_w hw 246 rfl) e85 Fv (H 13 rfl)
     have go92 := (s_iconst (s_ifYes (s_lcmp go91 X91 hx (H 14 rfl)) X91 hx (H 15 rfl) (pc' := 73) rfl (by decide) ((if0 _ _).trans (flt (fun q => (by decide : ¬ ((3 : Int64) < 3)) ((lw_lt _ _).mp q))).2.1)) X91 hx (H 42 rfl) (v := 1) rfl)
     refine own_fZ (Q := Q28_0 Z a0 a1 q3 q4 tf tt kf kt x0 x1 x2 y0 y1 y2 h0 n0) Bd.notSynchronized hx Bd.returns pre0 X91 go92 (H 43 rfl) e91 (by decide) (by decide) (zz := (1 : Int32)) rfl ?_
     exact ⟨(congrArg (fun z => some (Value.int z)) (show (1 : Int32) = f28_0 q3 q4 x0 x1 x2 y0 y1 y2 from by unfold f28_0; rw [if_neg hc47_10, if_pos hc59_73, if_pos hc47_81, if_pos hc47_89])), N0, rfl⟩
    have go93 := (s_aloadN (s_ifNo go88 X85 hx (H 27 rfl) ((if0 _ _).trans (flt (fun q => hc47_89 ((lw_gt _ _).mp q))).2.2.1)) X85 hx (H 28 rfl) rfl rfl)
    obtain ⟨T94, X94, e94, go94⟩ := gF go93 X85 hx hZ hown (own_w hw 22 rfl) e85 Ft (H 29 rfl)
    have go95 := (s_iload go94 X94 hx (H 30 rfl) rfl)
    obtain ⟨cl96, Ar96, -, Sz96, Nn96, Hs96, -⟩ := id At
    have hin96 : ¬ ((2 : Int32) < 0 ∨ cl96.slots.size ≤ ((2 : Int32)).toNatClampNeg) := inb_of Sz96 ⟨by decide, by decide⟩
    have hat96 : cl96.slots[((2 : Int32)).toNatClampNeg]? = some (.long y2) := Hs96.at hin96 rfl
    have go97 := (s_lcmp (s_lloadN (s_laload go95 X94 hx hZ e94 Ar96 hin96 hat96 (H 31 rfl)) X94 hx (H 32 rfl) rfl) X94 hx (H 33 rfl))
    by_cases hc59_98 : y2 < q3
    ·have go99 := (s_aloadN (s_lload (s_goto (s_lstore (s_laddE (s_lconst (s_lload (s_ifYes go97 X94 hx (H 34 rfl) (pc' := 64) rfl (by decide) ((if0 _ _).trans (tlt ((lw_lt _ _).mpr hc59_98)).1)) X94 hx (H 37 rfl) rfl) X94 hx (H 38 rfl) (v := 1) rfl) X94 hx (H 39 rfl) (v := 3) rfl) X94 hx (H 40 rfl) (L' := #[vr a1, vj 0, .second, vj q3, .second, vj q4, .second, vj 3, .second, vi 2]) rfl) X94 hx (H 41 rfl) (pc' := 18) rfl (by decide)) X94 hx (H 11 rfl) rfl) X94 hx (H 12 rfl) rfl rfl)
     obtain ⟨T100, X100, e100, go100⟩ := gF go99 X94 hx hZ hown (own_w hw 246 rfl) e94 Fv (H 13 rfl)
     have go101 := (s_iconst (s_ifYes (s_lcmp go100 X100 hx (H 14 rfl)) X100 hx (H 15 rfl) (pc' := 73) rfl (by decide) ((if0 _ _).trans (flt (fun q => (by decide : ¬ ((3 : Int64) < 3)) ((lw_lt _ _).mp q))).2.1)) X100 hx (H 42 rfl) (v := 1) rfl)
     refine own_fZ (Q := Q28_0 Z a0 a1 q3 q4 tf tt kf kt x0 x1 x2 y0 y1 y2 h0 n0) Bd.notSynchronized hx Bd.returns pre0 X100 go101 (H 43 rfl) e100 (by decide) (by decide) (zz := (1 : Int32)) rfl ?_
     exact ⟨(congrArg (fun z => some (Value.int z)) (show (1 : Int32) = f28_0 q3 q4 x0 x1 x2 y0 y1 y2 from by unfold f28_0; rw [if_neg hc47_10, if_pos hc59_73, if_pos hc47_81, if_neg hc47_89, if_pos hc59_98])), N0, rfl⟩
    have go102 := (s_iconst (s_ifNo go97 X94 hx (H 34 rfl) ((if0 _ _).trans (flt (fun q => hc59_98 ((lw_lt _ _).mp q))).1)) X94 hx (H 35 rfl) (v := 0) rfl)
    refine own_fZ (Q := Q28_0 Z a0 a1 q3 q4 tf tt kf kt x0 x1 x2 y0 y1 y2 h0 n0) Bd.notSynchronized hx Bd.returns pre0 X94 go102 (H 36 rfl) e94 (by decide) (by decide) (zz := (0 : Int32)) rfl ?_
    exact ⟨(congrArg (fun z => some (Value.int z)) (show (0 : Int32) = f28_0 q3 q4 x0 x1 x2 y0 y1 y2 from by unfold f28_0; rw [if_neg hc47_10, if_pos hc59_73, if_pos hc47_81, if_neg hc47_89, if_neg hc59_98])), N0, rfl⟩
   have go103 := (s_aloadN (s_ifNo go80 X77 hx (H 27 rfl) ((if0 _ _).trans (flt (fun q => hc47_81 ((lw_gt _ _).mp q))).2.2.1)) X77 hx (H 28 rfl) rfl rfl)
   obtain ⟨T104, X104, e104, go104⟩ := gF go103 X77 hx hZ hown (own_w hw 22 rfl) e77 Ft (H 29 rfl)
   have go105 := (s_iload go104 X104 hx (H 30 rfl) rfl)
   obtain ⟨cl106, Ar106, -, Sz106, Nn106, Hs106, -⟩ := id At
   have hin106 : ¬ ((1 : Int32) < 0 ∨ cl106.slots.size ≤ ((1 : Int32)).toNatClampNeg) := inb_of Sz106 ⟨by decide, by decide⟩
   have hat106 : cl106.slots[((1 : Int32)).toNatClampNeg]? = some (.long y1) := Hs106.at hin106 rfl
   have go107 := (s_lcmp (s_lloadN (s_laload go105 X104 hx hZ e104 Ar106 hin106 hat106 (H 31 rfl)) X104 hx (H 32 rfl) rfl) X104 hx (H 33 rfl))
   by_cases hc59_108 : y1 < q3
   ·have go109 := (s_aloadN (s_lload (s_goto (s_lstore (s_laddE (s_lconst (s_lload (s_ifYes go107 X104 hx (H 34 rfl) (pc' := 64) rfl (by decide) ((if0 _ _).trans (tlt ((lw_lt _ _).mpr hc59_108)).1)) X104 hx (H 37 rfl) rfl) X104 hx (H 38 rfl) (v := 1) rfl) X104 hx (H 39 rfl) (v := 2) rfl) X104 hx (H 40 rfl) (L' := #[vr a1, vj 0, .second, vj q3, .second, vj q4, .second, vj 2, .second, vi 1]) rfl) X104 hx (H 41 rfl) (pc' := 18) rfl (by decide)) X104 hx (H 11 rfl) rfl) X104 hx (H 12 rfl) rfl rfl)
    obtain ⟨T110, X110, e110, go110⟩ := gF go109 X104 hx hZ hown (own_w hw 246 rfl) e104 Fv (H 13 rfl)
    have go111 := (s_aloadN (s_istore (s_l2iE (s_lremE (s_ldc2 (s_lload (s_ifNo (s_lcmp go110 X110 hx (H 14 rfl)) X110 hx (H 15 rfl) ((if0 _ _).trans (tlt ((lw_lt _ _).mpr (by decide : (2 : Int64) < 3))).2.1)) X110 hx (H 16 rfl) rfl) X110 hx hown (mvT hZ (own_w hw 248 rfl)) (H 17 rfl)) X110 hx (H 18 rfl) (by decide) (v := 2) rfl) X110 hx (H 19 rfl) (v := 2) rfl) X110 hx (H 20 rfl) (L' := #[vr a1, vj 0, .second, vj q3, .second, vj q4, .second, vj 2, .second, vi 2]) rfl) X110 hx (H 21 rfl) rfl rfl)
    obtain ⟨T112, X112, e112, go112⟩ := gF go111 X110 hx hZ hown (own_w hw 20 rfl) e110 Ff (H 22 rfl)
    have go113 := (s_iload go112 X112 hx (H 23 rfl) rfl)
    obtain ⟨cl114, Ar114, -, Sz114, Nn114, Hs114, -⟩ := id Af
    have hin114 : ¬ ((2 : Int32) < 0 ∨ cl114.slots.size ≤ ((2 : Int32)).toNatClampNeg) := inb_of Sz114 ⟨by decide, by decide⟩
    have hat114 : cl114.slots[((2 : Int32)).toNatClampNeg]? = some (.long x2) := Hs114.at hin114 rfl
    have go115 := (s_lcmp (s_lload (s_laload go113 X112 hx hZ e112 Ar114 hin114 hat114 (H 24 rfl)) X112 hx (H 25 rfl) rfl) X112 hx (H 26 rfl))
    by_cases hc47_116 : q4 < x2
    ·have go117 := (s_aloadN (s_lload (s_goto (s_lstore (s_laddE (s_lconst (s_lload (s_ifYes go115 X112 hx (H 27 rfl) (pc' := 64) rfl (by decide) ((if0 _ _).trans (tlt ((lw_gt _ _).mpr hc47_116)).2.2.1)) X112 hx (H 37 rfl) rfl) X112 hx (H 38 rfl) (v := 1) rfl) X112 hx (H 39 rfl) (v := 3) rfl) X112 hx (H 40 rfl) (L' := #[vr a1, vj 0, .second, vj q3, .second, vj q4, .second, vj 3, .second, vi 2]) rfl) X112 hx (H 41 rfl) (pc' := 18) rfl (by decide)) X112 hx (H 11 rfl) rfl) X112 hx (H 12 rfl) rfl rfl)
     obtain ⟨T118, X118, e118, go118⟩ := gF go117 X112 hx hZ hown (own_w hw 246 rfl) e112 Fv (H 13 rfl)
     have go119 := (s_iconst (s_ifYes (s_lcmp go118 X118 hx (H 14 rfl)) X118 hx (H 15 rfl) (pc' := 73) rfl (by decide) ((if0 _ _).trans (flt (fun q => (by decide : ¬ ((3 : Int64) < 3)) ((lw_lt _ _).mp q))).2.1)) X118 hx (H 42 rfl) (v := 1) rfl)
     refine own_fZ (Q := Q28_0 Z a0 a1 q3 q4 tf tt kf kt x0 x1 x2 y0 y1 y2 h0 n0) Bd.notSynchronized hx Bd.returns pre0 X118 go119 (H 43 rfl) e118 (by decide) (by decide) (zz := (1 : Int32)) rfl ?_
     exact ⟨(congrArg (fun z => some (Value.int z)) (show (1 : Int32) = f28_0 q3 q4 x0 x1 x2 y0 y1 y2 from by unfold f28_0; rw [if_neg hc47_10, if_pos hc59_73, if_neg hc47_81, if_pos hc59_108, if_pos hc47_116])), N0, rfl⟩
    have go120 := (s_aloadN (s_ifNo go115 X112 hx (H 27 rfl) ((if0 _ _).trans (flt (fun q => hc47_116 ((lw_gt _ _).mp q))).2.2.1)) X112 hx (H 28 rfl) rfl rfl)
    obtain ⟨T121, X121, e121, go121⟩ := gF go120 X112 hx hZ hown (own_w hw 22 rfl) e112 Ft (H 29 rfl)
    have go122 := (s_iload go121 X121 hx (H 30 rfl) rfl)
    obtain ⟨cl123, Ar123, -, Sz123, Nn123, Hs123, -⟩ := id At
    have hin123 : ¬ ((2 : Int32) < 0 ∨ cl123.slots.size ≤ ((2 : Int32)).toNatClampNeg) := inb_of Sz123 ⟨by decide, by decide⟩
    have hat123 : cl123.slots[((2 : Int32)).toNatClampNeg]? = some (.long y2) := Hs123.at hin123 rfl
    have go124 := (s_lcmp (s_lloadN (s_laload go122 X121 hx hZ e121 Ar123 hin123 hat123 (H 31 rfl)) X121 hx (H 32 rfl) rfl) X121 hx (H 33 rfl))
    by_cases hc59_125 : y2 < q3
    ·have go126 := (s_aloadN (s_lload (s_goto (s_lstore (s_laddE (s_lconst (s_lload (s_ifYes go124 X121 hx (H 34 rfl) (pc' := 64) rfl (by decide) ((if0 _ _).trans (tlt ((lw_lt _ _).mpr hc59_125)).1)) X121 hx (H 37 rfl) rfl) X121 hx (H 38 rfl) (v := 1) rfl) X121 hx (H 39 rfl) (v := 3) rfl) X121 hx (H 40 rfl) (L' := #[vr a1, vj 0, .second, vj q3, .second, vj q4, .second, vj 3, .second, vi 2]) rfl) X121 hx (H 41 rfl) (pc' := 18) rfl (by decide)) X121 hx (H 11 rfl) rfl) X121 hx (H 12 rfl) rfl rfl)
     obtain ⟨T127, X127, e127, go127⟩ := gF go126 X121 hx hZ hown (own_w hw 246 rfl) e121 Fv (H 13 rfl)
     have go128 := (s_iconst (s_ifYes (s_lcmp go127 X127 hx (H 14 rfl)) X127 hx (H 15 rfl) (pc' := 73) rfl (by decide) ((if0 _ _).trans (flt (fun q => (by decide : ¬ ((3 : Int64) < 3)) ((lw_lt _ _).mp q))).2.1)) X127 hx (H 42 rfl) (v := 1) rfl)
     refine own_fZ (Q := Q28_0 Z a0 a1 q3 q4 tf tt kf kt x0 x1 x2 y0 y1 y2 h0 n0) Bd.notSynchronized hx Bd.returns pre0 X127 go128 (H 43 rfl) e127 (by decide) (by decide) (zz := (1 : Int32)) rfl ?_
     exact ⟨(congrArg (fun z => some (Value.int z)) (show (1 : Int32) = f28_0 q3 q4 x0 x1 x2 y0 y1 y2 from by unfold f28_0; rw [if_neg hc47_10, if_pos hc59_73, if_neg hc47_81, if_pos hc59_108, if_neg hc47_116, if_pos hc59_125])), N0, rfl⟩
    have go129 := (s_iconst (s_ifNo go124 X121 hx (H 34 rfl) ((if0 _ _).trans (flt (fun q => hc59_125 ((lw_lt _ _).mp q))).1)) X121 hx (H 35 rfl) (v := 0) rfl)
    refine own_fZ (Q := Q28_0 Z a0 a1 q3 q4 tf tt kf kt x0 x1 x2 y0 y1 y2 h0 n0) Bd.notSynchronized hx Bd.returns pre0 X121 go129 (H 36 rfl) e121 (by decide) (by decide) (zz := (0 : Int32)) rfl ?_
    exact ⟨(congrArg (fun z => some (Value.int z)) (show (0 : Int32) = f28_0 q3 q4 x0 x1 x2 y0 y1 y2 from by unfold f28_0; rw [if_neg hc47_10, if_pos hc59_73, if_neg hc47_81, if_pos hc59_108, if_neg hc47_116, if_neg hc59_125])), N0, rfl⟩
   have go130 := (s_iconst (s_ifNo go107 X104 hx (H 34 rfl) ((if0 _ _).trans (flt (fun q => hc59_108 ((lw_lt _ _).mp q))).1)) X104 hx (H 35 rfl) (v := 0) rfl)
   refine own_fZ (Q := Q28_0 Z a0 a1 q3 q4 tf tt kf kt x0 x1 x2 y0 y1 y2 h0 n0) Bd.notSynchronized hx Bd.returns pre0 X104 go130 (H 36 rfl) e104 (by decide) (by decide) (zz := (0 : Int32)) rfl ?_
   exact ⟨(congrArg (fun z => some (Value.int z)) (show (0 : Int32) = f28_0 q3 q4 x0 x1 x2 y0 y1 y2 from by unfold f28_0; rw [if_neg hc47_10, if_pos hc59_73, if_neg hc47_81, if_neg hc59_108])), N0, rfl⟩
  have go131 := (s_iconst (s_ifNo go72 X69 hx (H 34 rfl) ((if0 _ _).trans (flt (fun q => hc59_73 ((lw_lt _ _).mp q))).1)) X69 hx (H 35 rfl) (v := 0) rfl)
  refine own_fZ (Q := Q28_0 Z a0 a1 q3 q4 tf tt kf kt x0 x1 x2 y0 y1 y2 h0 n0) Bd.notSynchronized hx Bd.returns pre0 X69 go131 (H 36 rfl) e69 (by decide) (by decide) (zz := (0 : Int32)) rfl ?_
  exact ⟨(congrArg (fun z => some (Value.int z)) (show (0 : Int32) = f28_0 q3 q4 x0 x1 x2 y0 y1 y2 from by unfold f28_0; rw [if_neg hc47_10, if_neg hc59_73])), N0, rfl⟩

theorem pn_28_1 : plainName "com/example/slackline/slackline/replay/Plan" = true := by first | (simp [plainName, overriddenIn]; done) | decide +kernel
theorem ef_28_1 (m : MethodId) (x0 : Addr) (x2 : Int64) (x3 : Int64) : entryFrame m #[(.ref x0), (.long 1), (.long x2), (.long x3)] 10 = mkF m 0 #[vr x0, vj 1, .second, vj x2, .second, vj x3, .second, .unset, .unset, .unset] [] := by first | (simp [entryFrame, mkF, argsToLocals, Value.category]; done) | rfl
def f28_1 (q3 : Int64) (q4 : Int64) (x0 : Int64) (x1 : Int64) (x2 : Int64) (y0 : Int64) (y1 : Int64) (y2 : Int64) : Int32 := (if q4 < x1 then (if q4 < x2 then (1 : Int32) else (if y2 < q3 then (1 : Int32) else (0 : Int32))) else (if y1 < q3 then (if q4 < x2 then (1 : Int32) else (if y2 < q3 then (1 : Int32) else (0 : Int32))) else (0 : Int32)))
def Q28_1 (Z : State) (a0 : Array Value) (a1 : Addr) (q3 : Int64) (q4 : Int64) (tf : Addr) (tt : Addr) (kf : ClassId) (kt : ClassId) (x0 : Int64) (x1 : Int64) (x2 : Int64) (y0 : Int64) (y1 : Int64) (y2 : Int64) (h0 : Heap) (n0 : Nat) (v : Option Value) (h : Heap) (L : List Loc) : Prop := v = some (.int (f28_1 q3 q4 x0 x1 x2 y0 y1 y2)) ∧ Fr n0 L ∧ h = h0
set_option maxRecDepth 65536 in
set_option maxHeartbeats 40000000 in
theorem rm28_1 (l : Launch) (Z : State) (a0 : Array Value) (hw : ∀ d ∈ tables_1, d.before a0 Z = true) (ws : List Jvm.Cond) (a1 : Addr) (q3 : Int64) (q4 : Int64) (tf : Addr) (tt : Addr) (kf : ClassId) (kt : ClassId) (x0 : Int64) (x1 : Int64) (x2 : Int64) (y0 : Int64) (y1 : Int64) (y2 : Int64) (h0 : Heap) (n0 : Nat) (Z0 : n0 ≤ h0.size) (Fv : Fld Z h0 a1 c_5 "version" "J" (.long 3)) (Ff : Fld Z h0 a1 c_5 "touchedFrom" "[J" (.ref tf)) (Ft : Fld Z h0 a1 c_5 "touchedTo" "[J" (.ref tt)) (Af : Arv Z h0 tf kf .long (64 : Int32) ((.long x0) :: (.long x1) :: (.long x2) :: own_zl 61) (.long 0)) (At : Arv Z h0 tt kt .long (64 : Int32) ((.long y0) :: (.long y1) :: (.long y2) :: own_zl 61) (.long 0)) :
    MetFree l y_25 (head1 (Jvm.Cond.code y_25 prog_91_method_29_code 10 (some .boolean) :: ws) ({ frames := 0, cells := 0, slots := 0, locals := 0 } : Room)) (fun a U => a = #[(.ref a1), (.long 1), (.long q3), (.long q4)] ∧ Z.Warmed39 U.vm ∧ U.heap = h0) (fun _ _ _ _ _ => True) (fun _ U o U' => ∃ v L, o = .returned v ∧ Q28_1 Z a0 a1 q3 q4 tf tt kf kt x0 x1 x2 y0 y1 y2 h0 n0 v U'.heap L ∧ FrameEnd U o U' L ({ frames := 0, cells := 0, slots := 0, locals := 0 } : Room).cells ({ frames := 0, cells := 0, slots := 0, locals := 0 } : Room).slots) := by
  refine MetFree.of_bodySF (plainFor_of_name pn_28_1) hisR ?_
  intro p e s m args below meth c s₁ Bd hml0 hP hK
  obtain ⟨rfl, hZ, hh⟩ := hP
  have hx := Bd.exec
  have hby := Bd.bytes
  have hml : c.maxLocals = 10 := hml0
  have hown : s.vm.findClass "com/example/slackline/slackline/replay/Plan" = some m.cls := findClass_of_methodNamed Bd.named
  have hnm := (name_of_methodNamed Bd.named Bd.method).1
  have X0 : Stand p l e ({ frames := 0, cells := 0, slots := 0, locals := 0 } : Room) s m #[(.ref a1), (.long 1), (.long q3), (.long q4)] below meth c s₁ [] 0 0 := Stand.of_body Bd
  have e0 : s₁.heap = h0 := by rw [← hh, Bd.state]; rfl
  have N0 := Fr.nil n0
  have H : ∀ (k : Nat) {i : Nat} {r : Instr × Nat}, dt28[k]? = some (i, r) → decode c.code i = .ok r := fun _ i r q => hb hby (dk28 (i, r) (List.mem_of_getElem? q))
  obtain ⟨F0, hF0⟩ : ∃ F : JFrame, F = entryFrame m #[(.ref a1), (.long 1), (.long q3), (.long q4)] 10 := ⟨_, rfl⟩
  have pre0 : ∀ t, Steps p.tables e below (s₁.setTop F0) t → Steps p.tables e below (s₁.setTop (entryFrame m #[(.ref a1), (.long 1), (.long q3), (.long q4)] 10)) t := fun t k => hF0 ▸ k
  have go0 : Go p e below s₁ F0 s₁ (mkF m 0 #[vr a1, vj 1, .second, vj q3, .second, vj q4, .second, .unset, .unset, .unset] []) := fun t k => castTop (hF0.trans (ef_28_1 m a1 q3 q4)) k
  have go1 := (s_aloadN go0 X0 hx (H 0 rfl) rfl rfl)
  obtain ⟨T2, X2, e2, go2⟩ := gF go1 X0 hx hZ hown (own_w hw 246 rfl) e0 Fv (H 1 rfl)
  have go3 := (s_aloadN (s_lload (s_lstore (s_lloadN (s_ifYes (s_lcmp (s_ldc2 (s_lsubE (s_lloadN go2 X2 hx (H 2 rfl) rfl) X2 hx (H 3 rfl) (v := 2) rfl) X2 hx hown (mvT hZ (own_w hw 248 rfl)) (H 4 rfl)) X2 hx (H 5 rfl)) X2 hx (H 6 rfl) (pc' := 15) rfl (by decide) ((if0 _ _).trans (flt (fun q => (by decide : ¬ ((64 : Int64) < 2)) ((lw_gt _ _).mp q))).2.2.2)) X2 hx (H 9 rfl) rfl) X2 hx (H 10 rfl) (L' := #[vr a1, vj 1, .second, vj q3, .second, vj q4, .second, vj 1, .second, .unset]) rfl) X2 hx (H 11 rfl) rfl) X2 hx (H 12 rfl) rfl rfl)
  obtain ⟨T4, X4, e4, go4⟩ := gF go3 X2 hx hZ hown (own_w hw 246 rfl) e2 Fv (H 13 rfl)
  have go5 := (s_aloadN (s_istore (s_l2iE (s_lremE (s_ldc2 (s_lload (s_ifNo (s_lcmp go4 X4 hx (H 14 rfl)) X4 hx (H 15 rfl) ((if0 _ _).trans (tlt ((lw_lt _ _).mpr (by decide : (1 : Int64) < 3))).2.1)) X4 hx (H 16 rfl) rfl) X4 hx hown (mvT hZ (own_w hw 248 rfl)) (H 17 rfl)) X4 hx (H 18 rfl) (by decide) (v := 1) rfl) X4 hx (H 19 rfl) (v := 1) rfl) X4 hx (H 20 rfl) (L' := #[vr a1, vj 1, .second, vj q3, .second, vj q4, .second, vj 1, .second, vi 1]) rfl) X4 hx (H 21 rfl) rfl rfl)
  obtain ⟨T6, X6, e6, go6⟩ := gF go5 X4 hx hZ hown (own_w hw 20 rfl) e4 Ff (H 22 rfl)
  have go7 := (s_iload go6 X6 hx (H 23 rfl) rfl)
  obtain ⟨cl8, Ar8, -, Sz8, Nn8, Hs8, -⟩ := id Af
  have hin8 : ¬ ((1 : Int32) < 0 ∨ cl8.slots.size ≤ ((1 : Int32)).toNatClampNeg) := inb_of Sz8 ⟨by decide, by decide⟩
  have hat8 : cl8.slots[((1 : Int32)).toNatClampNeg]? = some (.long x1) := Hs8.at hin8 rfl
  have go9 := (s_lcmp (s_lload (s_laload go7 X6 hx hZ e6 Ar8 hin8 hat8 (H 24 rfl)) X6 hx (H 25 rfl) rfl) X6 hx (H 26 rfl))
  by_cases hc47_10 : q4 < x1
  ·have go11 := (s_aloadN (s_lload (s_goto (s_lstore (s_laddE (s_lconst (s_lload (s_ifYes go9 X6 hx (H 27 rfl) (pc' := 64) rfl (by decide) ((if0 _ _).trans (tlt ((lw_gt _ _).mpr hc47_10)).2.2.1)) X6 hx (H 37 rfl) rfl) X6 hx (H 38 rfl) (v := 1) rfl) X6 hx (H 39 rfl) (v := 2) rfl) X6 hx (H 40 rfl) (L' := #[vr a1, vj 1, .second, vj q3, .second, vj q4, .second, vj 2, .second, vi 1]) rfl) X6 hx (H 41 rfl) (pc' := 18) rfl (by decide)) X6 hx (H 11 rfl) rfl) X6 hx (H 12 rfl) rfl rfl)
   obtain ⟨T12, X12, e12, go12⟩ := gF go11 X6 hx hZ hown (own_w hw 246 rfl) e6 Fv (H 13 rfl)
   have go13 := (s_aloadN (s_istore (s_l2iE (s_lremE (s_ldc2 (s_lload (s_ifNo (s_lcmp go12 X12 hx (H 14 rfl)) X12 hx (H 15 rfl) ((if0 _ _).trans (tlt ((lw_lt _ _).mpr (by decide : (2 : Int64) < 3))).2.1)) X12 hx (H 16 rfl) rfl) X12 hx hown (mvT hZ (own_w hw 248 rfl)) (H 17 rfl)) X12 hx (H 18 rfl) (by decide) (v := 2) rfl) X12 hx (H 19 rfl) (v := 2) rfl) X12 hx (H 20 rfl) (L' := #[vr a1, vj 1, .second, vj q3, .second, vj q4, .second, vj 2, .second, vi 2]) rfl) X12 hx (H 21 rfl) rfl rfl)
   obtain ⟨T14, X14, e14, go14⟩ := gF go13 X12 hx hZ hown (own_w hw 20 rfl) e12 Ff (H 22 rfl)
   have go15 := (s_iload go14 X14 hx (H 23 rfl) rfl)
   obtain ⟨cl16, Ar16, -, Sz16, Nn16, Hs16, -⟩ := id Af
   have hin16 : ¬ ((2 : Int32) < 0 ∨ cl16.slots.size ≤ ((2 : Int32)).toNatClampNeg) := inb_of Sz16 ⟨by decide, by decide⟩
   have hat16 : cl16.slots[((2 : Int32)).toNatClampNeg]? = some (.long x2) := Hs16.at hin16 rfl
   have go17 := (s_lcmp (s_lload (s_laload go15 X14 hx hZ e14 Ar16 hin16 hat16 (H 24 rfl)) X14 hx (H 25 rfl) rfl) X14 hx (H 26 rfl))
   by_cases hc47_18 : q4 < x2
   ·have go19 := (s_aloadN (s_lload (s_goto (s_lstore (s_laddE (s_lconst (s_lload (s_ifYes go17 X14 hx (H 27 rfl) (pc' := 64) rfl (by decide) ((if0 _ _).trans (tlt ((lw_gt _ _).mpr hc47_18)).2.2.1)) X14 hx (H 37 rfl) rfl) X14 hx (H 38 rfl) (v := 1) rfl) X14 hx (H 39 rfl) (v := 3) rfl) X14 hx (H 40 rfl) (L' := #[vr a1, vj 1, .second, vj q3, .second, vj q4, .second, vj 3, .second, vi 2]) rfl) X14 hx (H 41 rfl) (pc' := 18) rfl (by decide)) X14 hx (H 11 rfl) rfl) X14 hx (H 12 rfl) rfl rfl)
    obtain ⟨T20, X20, e20, go20⟩ := gF go19 X14 hx hZ hown (own_w hw 246 rfl) e14 Fv (H 13 rfl)
    have go21 := (s_iconst (s_ifYes (s_lcmp go20 X20 hx (H 14 rfl)) X20 hx (H 15 rfl) (pc' := 73) rfl (by decide) ((if0 _ _).trans (flt (fun q => (by decide : ¬ ((3 : Int64) < 3)) ((lw_lt _ _).mp q))).2.1)) X20 hx (H 42 rfl) (v := 1) rfl)
    refine own_fZ (Q := Q28_1 Z a0 a1 q3 q4 tf tt kf kt x0 x1 x2 y0 y1 y2 h0 n0) Bd.notSynchronized hx Bd.returns pre0 X20 go21 (H 43 rfl) e20 (by decide) (by decide) (zz := (1 : Int32)) rfl ?_
    exact ⟨(congrArg (fun z => some (Value.int z)) (show (1 : Int32) = f28_1 q3 q4 x0 x1 x2 y0 y1 y2 from by unfold f28_1; rw [if_pos hc47_10, if_pos hc47_18])), N0, rfl⟩
   have go22 := (s_aloadN (s_ifNo go17 X14 hx (H 27 rfl) ((if0 _ _).trans (flt (fun q => hc47_18 ((lw_gt _ _).mp q))).2.2.1)) X14 hx (H 28 rfl) rfl rfl)
   obtain ⟨T23, X23, e23, go23⟩ := gF go22 X14 hx hZ hown (own_w hw 22 rfl) e14 Ft (H 29 rfl)
   have go24 := (s_iload go23 X23 hx (H 30 rfl) rfl)
   obtain ⟨cl25, Ar25, -, Sz25, Nn25, Hs25, -⟩ := id At
   have hin25 : ¬ ((2 : Int32) < 0 ∨ cl25.slots.size ≤ ((2 : Int32)).toNatClampNeg) := inb_of Sz25 ⟨by decide, by decide⟩
   have hat25 : cl25.slots[((2 : Int32)).toNatClampNeg]? = some (.long y2) := Hs25.at hin25 rfl
   have go26 := (s_lcmp (s_lloadN (s_laload go24 X23 hx hZ e23 Ar25 hin25 hat25 (H 31 rfl)) X23 hx (H 32 rfl) rfl) X23 hx (H 33 rfl))
   by_cases hc59_27 : y2 < q3
   ·have go28 := (s_aloadN (s_lload (s_goto (s_lstore (s_laddE (s_lconst (s_lload (s_ifYes go26 X23 hx (H 34 rfl) (pc' := 64) rfl (by decide) ((if0 _ _).trans (tlt ((lw_lt _ _).mpr hc59_27)).1)) X23 hx (H 37 rfl) rfl) X23 hx (H 38 rfl) (v := 1) rfl) X23 hx (H 39 rfl) (v := 3) rfl) X23 hx (H 40 rfl) (L' := #[vr a1, vj 1, .second, vj q3, .second, vj q4, .second, vj 3, .second, vi 2]) rfl) X23 hx (H 41 rfl) (pc' := 18) rfl (by decide)) X23 hx (H 11 rfl) rfl) X23 hx (H 12 rfl) rfl rfl)
    obtain ⟨T29, X29, e29, go29⟩ := gF go28 X23 hx hZ hown (own_w hw 246 rfl) e23 Fv (H 13 rfl)
    have go30 := (s_iconst (s_ifYes (s_lcmp go29 X29 hx (H 14 rfl)) X29 hx (H 15 rfl) (pc' := 73) rfl (by decide) ((if0 _ _).trans (flt (fun q => (by decide : ¬ ((3 : Int64) < 3)) ((lw_lt _ _).mp q))).2.1)) X29 hx (H 42 rfl) (v := 1) rfl)
    refine own_fZ (Q := Q28_1 Z a0 a1 q3 q4 tf tt kf kt x0 x1 x2 y0 y1 y2 h0 n0) Bd.notSynchronized hx Bd.returns pre0 X29 go30 (H 43 rfl) e29 (by decide) (by decide) (zz := (1 : Int32)) rfl ?_
    exact ⟨(congrArg (fun z => some (Value.int z)) (show (1 : Int32) = f28_1 q3 q4 x0 x1 x2 y0 y1 y2 from by unfold f28_1; rw [if_pos hc47_10, if_neg hc47_18, if_pos hc59_27])), N0, rfl⟩
   have go31 := (s_iconst (s_ifNo go26 X23 hx (H 34 rfl) ((if0 _ _).trans (flt (fun q => hc59_27 ((lw_lt _ _).mp q))).1)) X23 hx (H 35 rfl) (v := 0) rfl)
   refine own_fZ (Q := Q28_1 Z a0 a1 q3 q4 tf tt kf kt x0 x1 x2 y0 y1 y2 h0 n0) Bd.notSynchronized hx Bd.returns pre0 X23 go31 (H 36 rfl) e23 (by decide) (by decide) (zz := (0 : Int32)) rfl ?_
   exact ⟨(congrArg (fun z => some (Value.int z)) (show (0 : Int32) = f28_1 q3 q4 x0 x1 x2 y0 y1 y2 from by unfold f28_1; rw [if_pos hc47_10, if_neg hc47_18, if_neg hc59_27])), N0, rfl⟩
  have go32 := (s_aloadN (s_ifNo go9 X6 hx (H 27 rfl) ((if0 _ _).trans (flt (fun q => hc47_10 ((lw_gt _ _).mp q))).2.2.1)) X6 hx (H 28 rfl) rfl rfl)
  obtain ⟨T33, X33, e33, go33⟩ := gF go32 X6 hx hZ hown (own_w hw 22 rfl) e6 Ft (H 29 rfl)
  have go34 := (s_iload go33 X33 hx (H 30 rfl) rfl)
  obtain ⟨cl35, Ar35, -, Sz35, Nn35, Hs35, -⟩ := id At
  have hin35 : ¬ ((1 : Int32) < 0 ∨ cl35.slots.size ≤ ((1 : Int32)).toNatClampNeg) := inb_of Sz35 ⟨by decide, by decide⟩
  have hat35 : cl35.slots[((1 : Int32)).toNatClampNeg]? = some (.long y1) := Hs35.at hin35 rfl
  have go36 := (s_lcmp (s_lloadN (s_laload go34 X33 hx hZ e33 Ar35 hin35 hat35 (H 31 rfl)) X33 hx (H 32 rfl) rfl) X33 hx (H 33 rfl))
  by_cases hc59_37 : y1 < q3
  ·have go38 := (s_aloadN (s_lload (s_goto (s_lstore (s_laddE (s_lconst (s_lload (s_ifYes go36 X33 hx (H 34 rfl) (pc' := 64) rfl (by decide) ((if0 _ _).trans (tlt ((lw_lt _ _).mpr hc59_37)).1)) X33 hx (H 37 rfl) rfl) X33 hx (H 38 rfl) (v := 1) rfl) X33 hx (H 39 rfl) (v := 2) rfl) X33 hx (H 40 rfl) (L' := #[vr a1, vj 1, .second, vj q3, .second, vj q4, .second, vj 2, .second, vi 1]) rfl) X33 hx (H 41 rfl) (pc' := 18) rfl (by decide)) X33 hx (H 11 rfl) rfl) X33 hx (H 12 rfl) rfl rfl)
   obtain ⟨T39, X39, e39, go39⟩ := gF go38 X33 hx hZ hown (own_w hw 246 rfl) e33 Fv (H 13 rfl)
   have go40 := (s_aloadN (s_istore (s_l2iE (s_lremE (s_ldc2 (s_lload (s_ifNo (s_lcmp go39 X39 hx (H 14 rfl)) X39 hx (H 15 rfl) ((if0 _ _).trans (tlt ((lw_lt _ _).mpr (by decide : (2 : Int64) < 3))).2.1)) X39 hx (H 16 rfl) rfl) X39 hx hown (mvT hZ (own_w hw 248 rfl)) (H 17 rfl)) X39 hx (H 18 rfl) (by decide) (v := 2) rfl) X39 hx (H 19 rfl) (v := 2) rfl) X39 hx (H 20 rfl) (L' := #[vr a1, vj 1, .second, vj q3, .second, vj q4, .second, vj 2, .second, vi 2]) rfl) X39 hx (H 21 rfl) rfl rfl)
   obtain ⟨T41, X41, e41, go41⟩ := gF go40 X39 hx hZ hown (own_w hw 20 rfl) e39 Ff (H 22 rfl)
   have go42 := (s_iload go41 X41 hx (H 23 rfl) rfl)
   obtain ⟨cl43, Ar43, -, Sz43, Nn43, Hs43, -⟩ := id Af
   have hin43 : ¬ ((2 : Int32) < 0 ∨ cl43.slots.size ≤ ((2 : Int32)).toNatClampNeg) := inb_of Sz43 ⟨by decide, by decide⟩
   have hat43 : cl43.slots[((2 : Int32)).toNatClampNeg]? = some (.long x2) := Hs43.at hin43 rfl
   have go44 := (s_lcmp (s_lload (s_laload go42 X41 hx hZ e41 Ar43 hin43 hat43 (H 24 rfl)) X41 hx (H 25 rfl) rfl) X41 hx (H 26 rfl))
   by_cases hc47_45 : q4 < x2
   ·have go46 := (s_aloadN (s_lload (s_goto (s_lstore (s_laddE (s_lconst (s_lload (s_ifYes go44 X41 hx (H 27 rfl) (pc' := 64) rfl (by decide) ((if0 _ _).trans (tlt ((lw_gt _ _).mpr hc47_45)).2.2.1)) X41 hx (H 37 rfl) rfl) X41 hx (H 38 rfl) (v := 1) rfl) X41 hx (H 39 rfl) (v := 3) rfl) X41 hx (H 40 rfl) (L' := #[vr a1, vj 1, .second, vj q3, .second, vj q4, .second, vj 3, .second, vi 2]) rfl) X41 hx (H 41 rfl) (pc' := 18) rfl (by decide)) X41 hx (H 11 rfl) rfl) X41 hx (H 12 rfl) rfl rfl)
    obtain ⟨T47, X47, e47, go47⟩ := gF go46 X41 hx hZ hown (own_w hw 246 rfl) e41 Fv (H 13 rfl)
    have go48 := (s_iconst (s_ifYes (s_lcmp go47 X47 hx (H 14 rfl)) X47 hx (H 15 rfl) (pc' := 73) rfl (by decide) ((if0 _ _).trans (flt (fun q => (by decide : ¬ ((3 : Int64) < 3)) ((lw_lt _ _).mp q))).2.1)) X47 hx (H 42 rfl) (v := 1) rfl)
    refine own_fZ (Q := Q28_1 Z a0 a1 q3 q4 tf tt kf kt x0 x1 x2 y0 y1 y2 h0 n0) Bd.notSynchronized hx Bd.returns pre0 X47 go48 (H 43 rfl) e47 (by decide) (by decide) (zz := (1 : Int32)) rfl ?_
    exact ⟨(congrArg (fun z => some (Value.int z)) (show (1 : Int32) = f28_1 q3 q4 x0 x1 x2 y0 y1 y2 from by unfold f28_1; rw [if_neg hc47_10, if_pos hc59_37, if_pos hc47_45])), N0, rfl⟩
   have go49 := (s_aloadN (s_ifNo go44 X41 hx (H 27 rfl) ((if0 _ _).trans (flt (fun q => hc47_45 ((lw_gt _ _).mp q))).2.2.1)) X41 hx (H 28 rfl) rfl rfl)
   obtain ⟨T50, X50, e50, go50⟩ := gF go49 X41 hx hZ hown (own_w hw 22 rfl) e41 Ft (H 29 rfl)
   have go51 := (s_iload go50 X50 hx (H 30 rfl) rfl)
   obtain ⟨cl52, Ar52, -, Sz52, Nn52, Hs52, -⟩ := id At
   have hin52 : ¬ ((2 : Int32) < 0 ∨ cl52.slots.size ≤ ((2 : Int32)).toNatClampNeg) := inb_of Sz52 ⟨by decide, by decide⟩
   have hat52 : cl52.slots[((2 : Int32)).toNatClampNeg]? = some (.long y2) := Hs52.at hin52 rfl
   have go53 := (s_lcmp (s_lloadN (s_laload go51 X50 hx hZ e50 Ar52 hin52 hat52 (H 31 rfl)) X50 hx (H 32 rfl) rfl) X50 hx (H 33 rfl))
   by_cases hc59_54 : y2 < q3
   ·have go55 := (s_aloadN (s_lload (s_goto (s_lstore (s_laddE (s_lconst (s_lload (s_ifYes go53 X50 hx (H 34 rfl) (pc' := 64) rfl (by decide) ((if0 _ _).trans (tlt ((lw_lt _ _).mpr hc59_54)).1)) X50 hx (H 37 rfl) rfl) X50 hx (H 38 rfl) (v := 1) rfl) X50 hx (H 39 rfl) (v := 3) rfl) X50 hx (H 40 rfl) (L' := #[vr a1, vj 1, .second, vj q3, .second, vj q4, .second, vj 3, .second, vi 2]) rfl) X50 hx (H 41 rfl) (pc' := 18) rfl (by decide)) X50 hx (H 11 rfl) rfl) X50 hx (H 12 rfl) rfl rfl)
    obtain ⟨T56, X56, e56, go56⟩ := gF go55 X50 hx hZ hown (own_w hw 246 rfl) e50 Fv (H 13 rfl)
    have go57 := (s_iconst (s_ifYes (s_lcmp go56 X56 hx (H 14 rfl)) X56 hx (H 15 rfl) (pc' := 73) rfl (by decide) ((if0 _ _).trans (flt (fun q => (by decide : ¬ ((3 : Int64) < 3)) ((lw_lt _ _).mp q))).2.1)) X56 hx (H 42 rfl) (v := 1) rfl)
    refine own_fZ (Q := Q28_1 Z a0 a1 q3 q4 tf tt kf kt x0 x1 x2 y0 y1 y2 h0 n0) Bd.notSynchronized hx Bd.returns pre0 X56 go57 (H 43 rfl) e56 (by decide) (by decide) (zz := (1 : Int32)) rfl ?_
    exact ⟨(congrArg (fun z => some (Value.int z)) (show (1 : Int32) = f28_1 q3 q4 x0 x1 x2 y0 y1 y2 from by unfold f28_1; rw [if_neg hc47_10, if_pos hc59_37, if_neg hc47_45, if_pos hc59_54])), N0, rfl⟩
   have go58 := (s_iconst (s_ifNo go53 X50 hx (H 34 rfl) ((if0 _ _).trans (flt (fun q => hc59_54 ((lw_lt _ _).mp q))).1)) X50 hx (H 35 rfl) (v := 0) rfl)
   refine own_fZ (Q := Q28_1 Z a0 a1 q3 q4 tf tt kf kt x0 x1 x2 y0 y1 y2 h0 n0) Bd.notSynchronized hx Bd.returns pre0 X50 go58 (H 36 rfl) e50 (by decide) (by decide) (zz := (0 : Int32)) rfl ?_
   exact ⟨(congrArg (fun z => some (Value.int z)) (show (0 : Int32) = f28_1 q3 q4 x0 x1 x2 y0 y1 y2 from by unfold f28_1; rw [if_neg hc47_10, if_pos hc59_37, if_neg hc47_45, if_neg hc59_54])), N0, rfl⟩
  have go59 := (s_iconst (s_ifNo go36 X33 hx (H 34 rfl) ((if0 _ _).trans (flt (fun q => hc59_37 ((lw_lt _ _).mp q))).1)) X33 hx (H 35 rfl) (v := 0) rfl)
  refine own_fZ (Q := Q28_1 Z a0 a1 q3 q4 tf tt kf kt x0 x1 x2 y0 y1 y2 h0 n0) Bd.notSynchronized hx Bd.returns pre0 X33 go59 (H 36 rfl) e33 (by decide) (by decide) (zz := (0 : Int32)) rfl ?_
  exact ⟨(congrArg (fun z => some (Value.int z)) (show (0 : Int32) = f28_1 q3 q4 x0 x1 x2 y0 y1 y2 from by unfold f28_1; rw [if_neg hc47_10, if_neg hc59_37])), N0, rfl⟩

theorem pn_28_2 : plainName "com/example/slackline/slackline/replay/Plan" = true := by first | (simp [plainName, overriddenIn]; done) | decide +kernel
theorem ef_28_2 (m : MethodId) (x0 : Addr) (x2 : Int64) (x3 : Int64) : entryFrame m #[(.ref x0), (.long 2), (.long x2), (.long x3)] 10 = mkF m 0 #[vr x0, vj 2, .second, vj x2, .second, vj x3, .second, .unset, .unset, .unset] [] := by first | (simp [entryFrame, mkF, argsToLocals, Value.category]; done) | rfl
def f28_2 (q3 : Int64) (q4 : Int64) (x0 : Int64) (x1 : Int64) (x2 : Int64) (y0 : Int64) (y1 : Int64) (y2 : Int64) : Int32 := (if q4 < x2 then (1 : Int32) else (if y2 < q3 then (1 : Int32) else (0 : Int32)))
def Q28_2 (Z : State) (a0 : Array Value) (a1 : Addr) (q3 : Int64) (q4 : Int64) (tf : Addr) (tt : Addr) (kf : ClassId) (kt : ClassId) (x0 : Int64) (x1 : Int64) (x2 : Int64) (y0 : Int64) (y1 : Int64) (y2 : Int64) (h0 : Heap) (n0 : Nat) (v : Option Value) (h : Heap) (L : List Loc) : Prop := v = some (.int (f28_2 q3 q4 x0 x1 x2 y0 y1 y2)) ∧ Fr n0 L ∧ h = h0
set_option maxRecDepth 65536 in
set_option maxHeartbeats 40000000 in
theorem rm28_2 (l : Launch) (Z : State) (a0 : Array Value) (hw : ∀ d ∈ tables_1, d.before a0 Z = true) (ws : List Jvm.Cond) (a1 : Addr) (q3 : Int64) (q4 : Int64) (tf : Addr) (tt : Addr) (kf : ClassId) (kt : ClassId) (x0 : Int64) (x1 : Int64) (x2 : Int64) (y0 : Int64) (y1 : Int64) (y2 : Int64) (h0 : Heap) (n0 : Nat) (Z0 : n0 ≤ h0.size) (Fv : Fld Z h0 a1 c_5 "version" "J" (.long 3)) (Ff : Fld Z h0 a1 c_5 "touchedFrom" "[J" (.ref tf)) (Ft : Fld Z h0 a1 c_5 "touchedTo" "[J" (.ref tt)) (Af : Arv Z h0 tf kf .long (64 : Int32) ((.long x0) :: (.long x1) :: (.long x2) :: own_zl 61) (.long 0)) (At : Arv Z h0 tt kt .long (64 : Int32) ((.long y0) :: (.long y1) :: (.long y2) :: own_zl 61) (.long 0)) :
    MetFree l y_25 (head1 (Jvm.Cond.code y_25 prog_91_method_29_code 10 (some .boolean) :: ws) ({ frames := 0, cells := 0, slots := 0, locals := 0 } : Room)) (fun a U => a = #[(.ref a1), (.long 2), (.long q3), (.long q4)] ∧ Z.Warmed39 U.vm ∧ U.heap = h0) (fun _ _ _ _ _ => True) (fun _ U o U' => ∃ v L, o = .returned v ∧ Q28_2 Z a0 a1 q3 q4 tf tt kf kt x0 x1 x2 y0 y1 y2 h0 n0 v U'.heap L ∧ FrameEnd U o U' L ({ frames := 0, cells := 0, slots := 0, locals := 0 } : Room).cells ({ frames := 0, cells := 0, slots := 0, locals := 0 } : Room).slots) := by
  refine MetFree.of_bodySF (plainFor_of_name pn_28_2) hisR ?_
  intro p e s m args below meth c s₁ Bd hml0 hP hK
  obtain ⟨rfl, hZ, hh⟩ := hP
  have hx := Bd.exec
  have hby := Bd.bytes
  have hml : c.maxLocals = 10 := hml0
  have hown : s.vm.findClass "com/example/slackline/slackline/replay/Plan" = some m.cls := findClass_of_methodNamed Bd.named
  have hnm := (name_of_methodNamed Bd.named Bd.method).1
  have X0 : Stand p l e ({ frames := 0, cells := 0, slots := 0, locals := 0 } : Room) s m #[(.ref a1), (.long 2), (.long q3), (.long q4)] below meth c s₁ [] 0 0 := Stand.of_body Bd
  have e0 : s₁.heap = h0 := by rw [← hh, Bd.state]; rfl
  have N0 := Fr.nil n0
  have H : ∀ (k : Nat) {i : Nat} {r : Instr × Nat}, dt28[k]? = some (i, r) → decode c.code i = .ok r := fun _ i r q => hb hby (dk28 (i, r) (List.mem_of_getElem? q))
  obtain ⟨F0, hF0⟩ : ∃ F : JFrame, F = entryFrame m #[(.ref a1), (.long 2), (.long q3), (.long q4)] 10 := ⟨_, rfl⟩
  have pre0 : ∀ t, Steps p.tables e below (s₁.setTop F0) t → Steps p.tables e below (s₁.setTop (entryFrame m #[(.ref a1), (.long 2), (.long q3), (.long q4)] 10)) t := fun t k => hF0 ▸ k
  have go0 : Go p e below s₁ F0 s₁ (mkF m 0 #[vr a1, vj 2, .second, vj q3, .second, vj q4, .second, .unset, .unset, .unset] []) := fun t k => castTop (hF0.trans (ef_28_2 m a1 q3 q4)) k
  have go1 := (s_aloadN go0 X0 hx (H 0 rfl) rfl rfl)
  obtain ⟨T2, X2, e2, go2⟩ := gF go1 X0 hx hZ hown (own_w hw 246 rfl) e0 Fv (H 1 rfl)
  have go3 := (s_aloadN (s_lload (s_lstore (s_lloadN (s_ifYes (s_lcmp (s_ldc2 (s_lsubE (s_lloadN go2 X2 hx (H 2 rfl) rfl) X2 hx (H 3 rfl) (v := 1) rfl) X2 hx hown (mvT hZ (own_w hw 248 rfl)) (H 4 rfl)) X2 hx (H 5 rfl)) X2 hx (H 6 rfl) (pc' := 15) rfl (by decide) ((if0 _ _).trans (flt (fun q => (by decide : ¬ ((64 : Int64) < 1)) ((lw_gt _ _).mp q))).2.2.2)) X2 hx (H 9 rfl) rfl) X2 hx (H 10 rfl) (L' := #[vr a1, vj 2, .second, vj q3, .second, vj q4, .second, vj 2, .second, .unset]) rfl) X2 hx (H 11 rfl) rfl) X2 hx (H 12 rfl) rfl rfl)
  obtain ⟨T4, X4, e4, go4⟩ := gF go3 X2 hx hZ hown (own_w hw 246 rfl) e2 Fv (H 13 rfl)
  have go5 := (s_aloadN (s_istore (s_l2iE (s_lremE (s_ldc2 (s_lload (s_ifNo (s_lcmp go4 X4 hx (H 14 rfl)) X4 hx (H 15 rfl) ((if0 _ _).trans (tlt ((lw_lt _ _).mpr (by decide : (2 : Int64) < 3))).2.1)) X4 hx (H 16 rfl) rfl) X4 hx hown (mvT hZ (own_w hw 248 rfl)) (H 17 rfl)) X4 hx (H 18 rfl) (by decide) (v := 2) rfl) X4 hx (H 19 rfl) (v := 2) rfl) X4 hx (H 20 rfl) (L' := #[vr a1, vj 2, .second, vj q3, .second, vj q4, .second, vj 2, .second, vi 2]) rfl) X4 hx (H 21 rfl) rfl rfl)
  obtain ⟨T6, X6, e6, go6⟩ := gF go5 X4 hx hZ hown (own_w hw 20 rfl) e4 Ff (H 22 rfl)
  have go7 := (s_iload go6 X6 hx (H 23 rfl) rfl)
  obtain ⟨cl8, Ar8, -, Sz8, Nn8, Hs8, -⟩ := id Af
  have hin8 : ¬ ((2 : Int32) < 0 ∨ cl8.slots.size ≤ ((2 : Int32)).toNatClampNeg) := inb_of Sz8 ⟨by decide, by decide⟩
  have hat8 : cl8.slots[((2 : Int32)).toNatClampNeg]? = some (.long x2) := Hs8.at hin8 rfl
  have go9 := (s_lcmp (s_lload (s_laload go7 X6 hx hZ e6 Ar8 hin8 hat8 (H 24 rfl)) X6 hx (H 25 rfl) rfl) X6 hx (H 26 rfl))
  by_cases hc47_10 : q4 < x2
  ·have go11 := (s_aloadN (s_lload (s_goto (s_lstore (s_laddE (s_lconst (s_lload (s_ifYes go9 X6 hx (H 27 rfl) (pc' := 64) rfl (by decide) ((if0 _ _).trans (tlt ((lw_gt _ _).mpr hc47_10)).2.2.1)) X6 hx (H 37 rfl) rfl) X6 hx (H 38 rfl) (v := 1) rfl) X6 hx (H 39 rfl) (v := 3) rfl) X6 hx (H 40 rfl) (L' := #[vr a1, vj 2, .second, vj q3, .second, vj q4, .second, vj 3, .second, vi 2]) rfl) X6 hx (H 41 rfl) (pc' := 18) rfl (by decide)) X6 hx (H 11 rfl) rfl) X6 hx (H 12 rfl) rfl rfl)
   obtain ⟨T12, X12, e12, go12⟩ := gF go11 X6 hx hZ hown (own_w hw 246 rfl) e6 Fv (H 13 rfl)
   have go13 := (s_iconst (s_ifYes (s_lcmp go12 X12 hx (H 14 rfl)) X12 hx (H 15 rfl) (pc' := 73) rfl (by decide) ((if0 _ _).trans (flt (fun q => (by decide : ¬ ((3 : Int64) < 3)) ((lw_lt _ _).mp q))).2.1)) X12 hx (H 42 rfl) (v := 1) rfl)
   refine own_fZ (Q := Q28_2 Z a0 a1 q3 q4 tf tt kf kt x0 x1 x2 y0 y1 y2 h0 n0) Bd.notSynchronized hx Bd.returns pre0 X12 go13 (H 43 rfl) e12 (by decide) (by decide) (zz := (1 : Int32)) rfl ?_
   exact ⟨(congrArg (fun z => some (Value.int z)) (show (1 : Int32) = f28_2 q3 q4 x0 x1 x2 y0 y1 y2 from by unfold f28_2; rw [if_pos hc47_10])), N0, rfl⟩
  have go14 := (s_aloadN (s_ifNo go9 X6 hx (H 27 rfl) ((if0 _ _).trans (flt (fun q => hc47_10 ((lw_gt _ _).mp q))).2.2.1)) X6 hx (H 28 rfl) rfl rfl)
  obtain ⟨T15, X15, e15, go15⟩ := gF go14 X6 hx hZ hown (own_w hw 22 rfl) e6 Ft (H 29 rfl)
  have go16 := (s_iload go15 X15 hx (H 30 rfl) rfl)
  obtain ⟨cl17, Ar17, -, Sz17, Nn17, Hs17, -⟩ := id At
  have hin17 : ¬ ((2 : Int32) < 0 ∨ cl17.slots.size ≤ ((2 : Int32)).toNatClampNeg) := inb_of Sz17 ⟨by decide, by decide⟩
  have hat17 : cl17.slots[((2 : Int32)).toNatClampNeg]? = some (.long y2) := Hs17.at hin17 rfl
  have go18 := (s_lcmp (s_lloadN (s_laload go16 X15 hx hZ e15 Ar17 hin17 hat17 (H 31 rfl)) X15 hx (H 32 rfl) rfl) X15 hx (H 33 rfl))
  by_cases hc59_19 : y2 < q3
  ·have go20 := (s_aloadN (s_lload (s_goto (s_lstore (s_laddE (s_lconst (s_lload (s_ifYes go18 X15 hx (H 34 rfl) (pc' := 64) rfl (by decide) ((if0 _ _).trans (tlt ((lw_lt _ _).mpr hc59_19)).1)) X15 hx (H 37 rfl) rfl) X15 hx (H 38 rfl) (v := 1) rfl) X15 hx (H 39 rfl) (v := 3) rfl) X15 hx (H 40 rfl) (L' := #[vr a1, vj 2, .second, vj q3, .second, vj q4, .second, vj 3, .second, vi 2]) rfl) X15 hx (H 41 rfl) (pc' := 18) rfl (by decide)) X15 hx (H 11 rfl) rfl) X15 hx (H 12 rfl) rfl rfl)
   obtain ⟨T21, X21, e21, go21⟩ := gF go20 X15 hx hZ hown (own_w hw 246 rfl) e15 Fv (H 13 rfl)
   have go22 := (s_iconst (s_ifYes (s_lcmp go21 X21 hx (H 14 rfl)) X21 hx (H 15 rfl) (pc' := 73) rfl (by decide) ((if0 _ _).trans (flt (fun q => (by decide : ¬ ((3 : Int64) < 3)) ((lw_lt _ _).mp q))).2.1)) X21 hx (H 42 rfl) (v := 1) rfl)
   refine own_fZ (Q := Q28_2 Z a0 a1 q3 q4 tf tt kf kt x0 x1 x2 y0 y1 y2 h0 n0) Bd.notSynchronized hx Bd.returns pre0 X21 go22 (H 43 rfl) e21 (by decide) (by decide) (zz := (1 : Int32)) rfl ?_
   exact ⟨(congrArg (fun z => some (Value.int z)) (show (1 : Int32) = f28_2 q3 q4 x0 x1 x2 y0 y1 y2 from by unfold f28_2; rw [if_neg hc47_10, if_pos hc59_19])), N0, rfl⟩
  have go23 := (s_iconst (s_ifNo go18 X15 hx (H 34 rfl) ((if0 _ _).trans (flt (fun q => hc59_19 ((lw_lt _ _).mp q))).1)) X15 hx (H 35 rfl) (v := 0) rfl)
  refine own_fZ (Q := Q28_2 Z a0 a1 q3 q4 tf tt kf kt x0 x1 x2 y0 y1 y2 h0 n0) Bd.notSynchronized hx Bd.returns pre0 X15 go23 (H 36 rfl) e15 (by decide) (by decide) (zz := (0 : Int32)) rfl ?_
  exact ⟨(congrArg (fun z => some (Value.int z)) (show (0 : Int32) = f28_2 q3 q4 x0 x1 x2 y0 y1 y2 from by unfold f28_2; rw [if_neg hc47_10, if_neg hc59_19])), N0, rfl⟩

theorem pn_28_3 : plainName "com/example/slackline/slackline/replay/Plan" = true := by first | (simp [plainName, overriddenIn]; done) | decide +kernel
theorem ef_28_3 (m : MethodId) (x0 : Addr) (x2 : Int64) (x3 : Int64) : entryFrame m #[(.ref x0), (.long 3), (.long x2), (.long x3)] 10 = mkF m 0 #[vr x0, vj 3, .second, vj x2, .second, vj x3, .second, .unset, .unset, .unset] [] := by first | (simp [entryFrame, mkF, argsToLocals, Value.category]; done) | rfl
def f28_3 (q3 : Int64) (q4 : Int64) (x0 : Int64) (x1 : Int64) (x2 : Int64) (y0 : Int64) (y1 : Int64) (y2 : Int64) : Int32 := (1 : Int32)
def Q28_3 (Z : State) (a0 : Array Value) (a1 : Addr) (q3 : Int64) (q4 : Int64) (tf : Addr) (tt : Addr) (kf : ClassId) (kt : ClassId) (x0 : Int64) (x1 : Int64) (x2 : Int64) (y0 : Int64) (y1 : Int64) (y2 : Int64) (h0 : Heap) (n0 : Nat) (v : Option Value) (h : Heap) (L : List Loc) : Prop := v = some (.int (f28_3 q3 q4 x0 x1 x2 y0 y1 y2)) ∧ Fr n0 L ∧ h = h0
set_option maxRecDepth 65536 in
set_option maxHeartbeats 40000000 in
theorem rm28_3 (l : Launch) (Z : State) (a0 : Array Value) (hw : ∀ d ∈ tables_1, d.before a0 Z = true) (ws : List Jvm.Cond) (a1 : Addr) (q3 : Int64) (q4 : Int64) (tf : Addr) (tt : Addr) (kf : ClassId) (kt : ClassId) (x0 : Int64) (x1 : Int64) (x2 : Int64) (y0 : Int64) (y1 : Int64) (y2 : Int64) (h0 : Heap) (n0 : Nat) (Z0 : n0 ≤ h0.size) (Fv : Fld Z h0 a1 c_5 "version" "J" (.long 3)) (Ff : Fld Z h0 a1 c_5 "touchedFrom" "[J" (.ref tf)) (Ft : Fld Z h0 a1 c_5 "touchedTo" "[J" (.ref tt)) (Af : Arv Z h0 tf kf .long (64 : Int32) ((.long x0) :: (.long x1) :: (.long x2) :: own_zl 61) (.long 0)) (At : Arv Z h0 tt kt .long (64 : Int32) ((.long y0) :: (.long y1) :: (.long y2) :: own_zl 61) (.long 0)) :
    MetFree l y_25 (head1 (Jvm.Cond.code y_25 prog_91_method_29_code 10 (some .boolean) :: ws) ({ frames := 0, cells := 0, slots := 0, locals := 0 } : Room)) (fun a U => a = #[(.ref a1), (.long 3), (.long q3), (.long q4)] ∧ Z.Warmed39 U.vm ∧ U.heap = h0) (fun _ _ _ _ _ => True) (fun _ U o U' => ∃ v L, o = .returned v ∧ Q28_3 Z a0 a1 q3 q4 tf tt kf kt x0 x1 x2 y0 y1 y2 h0 n0 v U'.heap L ∧ FrameEnd U o U' L ({ frames := 0, cells := 0, slots := 0, locals := 0 } : Room).cells ({ frames := 0, cells := 0, slots := 0, locals := 0 } : Room).slots) := by
  refine MetFree.of_bodySF (plainFor_of_name pn_28_3) hisR ?_
  intro p e s m args below meth c s₁ Bd hml0 hP hK
  obtain ⟨rfl, hZ, hh⟩ := hP
  have hx := Bd.exec
  have hby := Bd.bytes
  have hml : c.maxLocals = 10 := hml0
  have hown : s.vm.findClass "com/example/slackline/slackline/replay/Plan" = some m.cls := findClass_of_methodNamed Bd.named
  have hnm := (name_of_methodNamed Bd.named Bd.method).1
  have X0 : Stand p l e ({ frames := 0, cells := 0, slots := 0, locals := 0 } : Room) s m #[(.ref a1), (.long 3), (.long q3), (.long q4)] below meth c s₁ [] 0 0 := Stand.of_body Bd
  have e0 : s₁.heap = h0 := by rw [← hh, Bd.state]; rfl
  have N0 := Fr.nil n0
  have H : ∀ (k : Nat) {i : Nat} {r : Instr × Nat}, dt28[k]? = some (i, r) → decode c.code i = .ok r := fun _ i r q => hb hby (dk28 (i, r) (List.mem_of_getElem? q))
  obtain ⟨F0, hF0⟩ : ∃ F : JFrame, F = entryFrame m #[(.ref a1), (.long 3), (.long q3), (.long q4)] 10 := ⟨_, rfl⟩
  have pre0 : ∀ t, Steps p.tables e below (s₁.setTop F0) t → Steps p.tables e below (s₁.setTop (entryFrame m #[(.ref a1), (.long 3), (.long q3), (.long q4)] 10)) t := fun t k => hF0 ▸ k
  have go0 : Go p e below s₁ F0 s₁ (mkF m 0 #[vr a1, vj 3, .second, vj q3, .second, vj q4, .second, .unset, .unset, .unset] []) := fun t k => castTop (hF0.trans (ef_28_3 m a1 q3 q4)) k
  have go1 := (s_aloadN go0 X0 hx (H 0 rfl) rfl rfl)
  obtain ⟨T2, X2, e2, go2⟩ := gF go1 X0 hx hZ hown (own_w hw 246 rfl) e0 Fv (H 1 rfl)
  have go3 := (s_aloadN (s_lload (s_lstore (s_lloadN (s_ifYes (s_lcmp (s_ldc2 (s_lsubE (s_lloadN go2 X2 hx (H 2 rfl) rfl) X2 hx (H 3 rfl) (v := 0) rfl) X2 hx hown (mvT hZ (own_w hw 248 rfl)) (H 4 rfl)) X2 hx (H 5 rfl)) X2 hx (H 6 rfl) (pc' := 15) rfl (by decide) ((if0 _ _).trans (flt (fun q => (by decide : ¬ ((64 : Int64) < 0)) ((lw_gt _ _).mp q))).2.2.2)) X2 hx (H 9 rfl) rfl) X2 hx (H 10 rfl) (L' := #[vr a1, vj 3, .second, vj q3, .second, vj q4, .second, vj 3, .second, .unset]) rfl) X2 hx (H 11 rfl) rfl) X2 hx (H 12 rfl) rfl rfl)
  obtain ⟨T4, X4, e4, go4⟩ := gF go3 X2 hx hZ hown (own_w hw 246 rfl) e2 Fv (H 13 rfl)
  have go5 := (s_iconst (s_ifYes (s_lcmp go4 X4 hx (H 14 rfl)) X4 hx (H 15 rfl) (pc' := 73) rfl (by decide) ((if0 _ _).trans (flt (fun q => (by decide : ¬ ((3 : Int64) < 3)) ((lw_lt _ _).mp q))).2.1)) X4 hx (H 42 rfl) (v := 1) rfl)
  refine own_fZ (Q := Q28_3 Z a0 a1 q3 q4 tf tt kf kt x0 x1 x2 y0 y1 y2 h0 n0) Bd.notSynchronized hx Bd.returns pre0 X4 go5 (H 43 rfl) e4 (by decide) (by decide) (zz := (1 : Int32)) rfl ?_
  exact ⟨(congrArg (fun z => some (Value.int z)) (show (1 : Int32) = f28_3 q3 q4 x0 x1 x2 y0 y1 y2 from by unfold f28_3; rfl)), N0, rfl⟩

def dt29 : List (Nat × Instr × Nat) := [(0, .lload_n 2, 1), (1, .lload 4, 2), (3, .lcmp, 1), (4, .ifCond .lt 14, 3), (7, .lload 6, 2), (9, .lload_n 0, 1), (10, .lcmp, 1), (11, .ifCond .lt 7, 3), (14, .iconst 1, 1), (15, .goto 4, 3), (18, .iconst 0, 1), (19, .ireturn, 1)]
theorem dk29 : ∀ x ∈ dt29, decode method_3_code x.1 = .ok x.2 := by decide +kernel
theorem pn_29 : plainName "com/example/slackline/slackline/replay/PlanUntouchedSincePinLaw" = true := by first | (simp [plainName, overriddenIn]; done) | decide +kernel
theorem ef_29 (m : MethodId) (x0 : Int64) (x1 : Int64) (x2 : Int64) (x3 : Int64) : entryFrame m #[(.long x0), (.long x1), (.long x2), (.long x3)] 8 = mkF m 0 #[vj x0, .second, vj x1, .second, vj x2, .second, vj x3, .second] [] := by first | (simp [entryFrame, mkF, argsToLocals, Value.category]; done) | rfl
def f29 (q1 : Int64) (q2 : Int64) (q3 : Int64) (q4 : Int64) : Int32 := (if q2 < q3 then (0 : Int32) else (if q4 < q1 then (0 : Int32) else (1 : Int32)))
def Q29 (Z : State) (a0 : Array Value) (q1 : Int64) (q2 : Int64) (q3 : Int64) (q4 : Int64) (h0 : Heap) (n0 : Nat) (v : Option Value) (h : Heap) (L : List Loc) : Prop := v = some (.int (f29 q1 q2 q3 q4)) ∧ Fr n0 L ∧ h = h0
set_option maxRecDepth 65536 in
set_option maxHeartbeats 40000000 in
theorem rm29 (l : Launch) (Z : State) (a0 : Array Value) (hw : ∀ d ∈ tables_1, d.before a0 Z = true) (ws : List Jvm.Cond) (q1 : Int64) (q2 : Int64) (q3 : Int64) (q4 : Int64) (h0 : Heap) (n0 : Nat) (Z0 : n0 ≤ h0.size) :
    MetFree l y_26 (head1 (Jvm.Cond.code y_26 method_3_code 8 (some .boolean) :: ws) ({ frames := 0, cells := 0, slots := 0, locals := 0 } : Room)) (fun a U => a = #[(.long q1), (.long q2), (.long q3), (.long q4)] ∧ Z.Warmed39 U.vm ∧ U.heap = h0) (fun _ _ _ _ _ => True) (fun _ U o U' => ∃ v L, o = .returned v ∧ Q29 Z a0 q1 q2 q3 q4 h0 n0 v U'.heap L ∧ FrameEnd U o U' L ({ frames := 0, cells := 0, slots := 0, locals := 0 } : Room).cells ({ frames := 0, cells := 0, slots := 0, locals := 0 } : Room).slots) := by
  refine MetFree.of_bodySF (plainFor_of_name pn_29) hisR ?_
  intro p e s m args below meth c s₁ Bd hml0 hP hK
  obtain ⟨rfl, hZ, hh⟩ := hP
  have hx := Bd.exec
  have hby := Bd.bytes
  have hml : c.maxLocals = 8 := hml0
  have hown : s.vm.findClass "com/example/slackline/slackline/replay/PlanUntouchedSincePinLaw" = some m.cls := findClass_of_methodNamed Bd.named
  have hnm := (name_of_methodNamed Bd.named Bd.method).1
  have X0 : Stand p l e ({ frames := 0, cells := 0, slots := 0, locals := 0 } : Room) s m #[(.long q1), (.long q2), (.long q3), (.long q4)] below meth c s₁ [] 0 0 := Stand.of_body Bd
  have e0 : s₁.heap = h0 := by rw [← hh, Bd.state]; rfl
  have N0 := Fr.nil n0
  have H : ∀ (k : Nat) {i : Nat} {r : Instr × Nat}, dt29[k]? = some (i, r) → decode c.code i = .ok r := fun _ i r q => hb hby (dk29 (i, r) (List.mem_of_getElem? q))
  obtain ⟨F0, hF0⟩ : ∃ F : JFrame, F = entryFrame m #[(.long q1), (.long q2), (.long q3), (.long q4)] 8 := ⟨_, rfl⟩
  have pre0 : ∀ t, Steps p.tables e below (s₁.setTop F0) t → Steps p.tables e below (s₁.setTop (entryFrame m #[(.long q1), (.long q2), (.long q3), (.long q4)] 8)) t := fun t k => hF0 ▸ k
  have go0 : Go p e below s₁ F0 s₁ (mkF m 0 #[vj q1, .second, vj q2, .second, vj q3, .second, vj q4, .second] []) := fun t k => castTop (hF0.trans (ef_29 m q1 q2 q3 q4)) k
  have go1 := (s_lcmp (s_lload (s_lloadN go0 X0 hx (H 0 rfl) rfl) X0 hx (H 1 rfl) rfl) X0 hx (H 2 rfl))
  by_cases hc4_2 : q2 < q3
  ·have go3 := (s_iconst (s_ifYes go1 X0 hx (H 3 rfl) (pc' := 18) rfl (by decide) ((if0 _ _).trans (tlt ((lw_lt _ _).mpr hc4_2)).1)) X0 hx (H 10 rfl) (v := 0) rfl)
   refine own_fZ (Q := Q29 Z a0 q1 q2 q3 q4 h0 n0) Bd.notSynchronized hx Bd.returns pre0 X0 go3 (H 11 rfl) e0 (by decide) (by decide) (zz := (0 : Int32)) rfl ?_
   exact ⟨(congrArg (fun z => some (Value.int z)) (show (0 : Int32) = f29 q1 q2 q3 q4 from by unfold f29; rw [if_pos hc4_2])), N0, rfl⟩
  have go4 := (s_lcmp (s_lloadN (s_lload (s_ifNo go1 X0 hx (H 3 rfl) ((if0 _ _).trans (flt (fun q => hc4_2 ((lw_lt _ _).mp q))).1)) X0 hx (H 4 rfl) rfl) X0 hx (H 5 rfl) rfl) X0 hx (H 6 rfl))
  by_cases hc11_5 : q4 < q1
  ·have go6 := (s_iconst (s_ifYes go4 X0 hx (H 7 rfl) (pc' := 18) rfl (by decide) ((if0 _ _).trans (tlt ((lw_lt _ _).mpr hc11_5)).1)) X0 hx (H 10 rfl) (v := 0) rfl)
   refine own_fZ (Q := Q29 Z a0 q1 q2 q3 q4 h0 n0) Bd.notSynchronized hx Bd.returns pre0 X0 go6 (H 11 rfl) e0 (by decide) (by decide) (zz := (0 : Int32)) rfl ?_
   exact ⟨(congrArg (fun z => some (Value.int z)) (show (0 : Int32) = f29 q1 q2 q3 q4 from by unfold f29; rw [if_neg hc4_2, if_pos hc11_5])), N0, rfl⟩
  have go7 := (s_goto (s_iconst (s_ifNo go4 X0 hx (H 7 rfl) ((if0 _ _).trans (flt (fun q => hc11_5 ((lw_lt _ _).mp q))).1)) X0 hx (H 8 rfl) (v := 1) rfl) X0 hx (H 9 rfl) (pc' := 19) rfl (by decide))
  refine own_fZ (Q := Q29 Z a0 q1 q2 q3 q4 h0 n0) Bd.notSynchronized hx Bd.returns pre0 X0 go7 (H 11 rfl) e0 (by decide) (by decide) (zz := (1 : Int32)) rfl ?_
  exact ⟨(congrArg (fun z => some (Value.int z)) (show (1 : Int32) = f29 q1 q2 q3 q4 from by unfold f29; rw [if_neg hc4_2, if_neg hc11_5])), N0, rfl⟩

def dt30 : List (Nat × Instr × Nat) := [(0, .aload_n 0, 1), (1, .getfield 248, 3), (4, .lreturn, 1)]
theorem dk30 : ∀ x ∈ dt30, decode prog_91_method_28_code x.1 = .ok x.2 := by decide +kernel
theorem pn_30 : plainName "com/example/slackline/slackline/replay/Plan" = true := by first | (simp [plainName, overriddenIn]; done) | decide +kernel
theorem ef_30 (m : MethodId) (x0 : Addr) : entryFrame m #[(.ref x0)] 1 = mkF m 0 #[vr x0] [] := by first | (simp [entryFrame, mkF, argsToLocals, Value.category]; done) | rfl
def Q30 (Z : State) (a0 : Array Value) (a1 : Addr) (h0 : Heap) (n0 : Nat) (v : Option Value) (h : Heap) (L : List Loc) : Prop := v = some (.long 3) ∧ Fr n0 L ∧ h = h0
set_option maxRecDepth 65536 in
set_option maxHeartbeats 40000000 in
theorem rm30 (l : Launch) (Z : State) (a0 : Array Value) (hw : ∀ d ∈ tables_1, d.before a0 Z = true) (ws : List Jvm.Cond) (a1 : Addr) (h0 : Heap) (n0 : Nat) (Z0 : n0 ≤ h0.size) (Fv : Fld Z h0 a1 c_5 "version" "J" (.long 3)) :
    MetFree l y_27 (head1 (Jvm.Cond.code y_27 prog_91_method_28_code 1 (some .long) :: ws) ({ frames := 0, cells := 0, slots := 0, locals := 0 } : Room)) (fun a U => a = #[(.ref a1)] ∧ Z.Warmed39 U.vm ∧ U.heap = h0) (fun _ _ _ _ _ => True) (fun _ U o U' => ∃ v L, o = .returned v ∧ Q30 Z a0 a1 h0 n0 v U'.heap L ∧ FrameEnd U o U' L ({ frames := 0, cells := 0, slots := 0, locals := 0 } : Room).cells ({ frames := 0, cells := 0, slots := 0, locals := 0 } : Room).slots) := by
  refine MetFree.of_bodySF (plainFor_of_name pn_30) hisR ?_
  intro p e s m args below meth c s₁ Bd hml0 hP hK
  obtain ⟨rfl, hZ, hh⟩ := hP
  have hx := Bd.exec
  have hby := Bd.bytes
  have hml : c.maxLocals = 1 := hml0
  have hown : s.vm.findClass "com/example/slackline/slackline/replay/Plan" = some m.cls := findClass_of_methodNamed Bd.named
  have hnm := (name_of_methodNamed Bd.named Bd.method).1
  have X0 : Stand p l e ({ frames := 0, cells := 0, slots := 0, locals := 0 } : Room) s m #[(.ref a1)] below meth c s₁ [] 0 0 := Stand.of_body Bd
  have e0 : s₁.heap = h0 := by rw [← hh, Bd.state]; rfl
  have N0 := Fr.nil n0
  have H : ∀ (k : Nat) {i : Nat} {r : Instr × Nat}, dt30[k]? = some (i, r) → decode c.code i = .ok r := fun _ i r q => hb hby (dk30 (i, r) (List.mem_of_getElem? q))
  obtain ⟨F0, hF0⟩ : ∃ F : JFrame, F = entryFrame m #[(.ref a1)] 1 := ⟨_, rfl⟩
  have pre0 : ∀ t, Steps p.tables e below (s₁.setTop F0) t → Steps p.tables e below (s₁.setTop (entryFrame m #[(.ref a1)] 1)) t := fun t k => hF0 ▸ k
  have go0 : Go p e below s₁ F0 s₁ (mkF m 0 #[vr a1] []) := fun t k => castTop (hF0.trans (ef_30 m a1)) k
  have go1 := (s_aloadN go0 X0 hx (H 0 rfl) rfl rfl)
  obtain ⟨T2, X2, e2, go2⟩ := gF go1 X0 hx hZ hown (own_w hw 246 rfl) e0 Fv (H 1 rfl)
  obtain ⟨fs, hr, hrun, hended, hW, hsame⟩ := X2.leave (v := some (.long 3)) (fun h => by rw [Bd.returns] at h; cases h)
  refine ⟨_, _, pre0 _ (go2 _ ?_), hrun, hended, _, _, rfl, ?_, ⟨_, rfl⟩, hW, hsame.mono (by decide) (by decide)⟩
  ·exact retOut X2 hx Bd.returns rfl (Or.inr (Or.inl ⟨rfl, rfl, _, rfl⟩)) (H 2 rfl) hr
  ·show Q30 Z a0 a1 h0 n0 _ T2.heap _
   rw [e2]
   exact ⟨rfl, N0, rfl⟩

def dt3 : List (Nat × Instr × Nat) := [(0, .aload_n 0, 1), (1, .invokespecial 9, 3), (4, .aload_n 0, 1), (5, .bipush 64, 2), (7, .newarray .long, 2), (9, .putfield 14, 3), (12, .aload_n 0, 1), (13, .bipush 64, 2), (15, .newarray .long, 2), (17, .putfield 18, 3), (20, .aload_n 0, 1), (21, .iconst 2, 1), (22, .newarray .long, 2), (24, .putfield 21, 3), (27, .aload_n 1, 1), (28, .arraylength, 1), (29, .bipush 32, 2), (31, .if_icmp .le 18, 3), (49, .aload_n 0, 1), (50, .aload_n 1, 1), (51, .invokevirtual 35, 3), (54, .checkcast 36, 3), (57, .putfield 41, 3), (60, .aload_n 0, 1), (61, .aload_n 1, 1), (62, .arraylength, 1), (63, .putfield 44, 3), (66, .aload_n 0, 1), (67, .new 1, 3), (70, .dup, 1), (71, .aload_n 1, 1), (72, .iload_n 2, 1), (73, .invokespecial 48, 3), (76, .putfield 49, 3), (79, .aload_n 0, 1), (80, .new 53, 3), (83, .dup, 1), (84, .aload_n 0, 1), (85, .getfield 44, 3), (88, .invokespecial 55, 3), (91, .putfield 58, 3), (94, .aload_n 0, 1), (95, .new 62, 3), (98, .dup, 1), (99, .aload_n 0, 1), (100, .invokespecial 64, 3), (103, .putfield 67, 3), (106, .aload_n 0, 1), (107, .aload_n 0, 1), (108, .getfield 44, 3), (111, .newarray .int, 2), (113, .putfield 71, 3), (116, .return_, 1)]
theorem dk3 : ∀ x ∈ dt3, decode prog_91_method_2_code x.1 = .ok x.2 := by decide +kernel
theorem pn_3 : plainName "com/example/slackline/slackline/replay/Plan" = true := by first | (simp [plainName, overriddenIn]; done) | decide +kernel
theorem pd3_0 : parseMethodDescriptor "([II)V" = some ⟨[(.array .int), .int], none⟩ := by decide +kernel
theorem pd3_1 : parseMethodDescriptor "(I)V" = some ⟨[.int], none⟩ := by decide +kernel
theorem pd3_2 : parseMethodDescriptor "(Lcom/example/slackline/slackline/replay/Plan;)V" = some ⟨[(.object "com/example/slackline/slackline/replay/Plan")], none⟩ := by decide +kernel
theorem ef_3 (m : MethodId) (x0 : Addr) (x1 : Addr) : entryFrame m #[(.ref x0), (.ref x1), (.int 4)] 3 = mkF m 0 #[vr x0, vr x1, vi 4] [] := by first | (simp [entryFrame, mkF, argsToLocals, Value.category]; done) | rfl
def Q3 (Z : State) (a0 : Array Value) (a1 : Addr) (a2 : Addr) (k2 : ClassId) (h0 : Heap) (n0 : Nat) (v : Option Value) (h : Heap) (L : List Loc) : Prop := ∃ tf : Addr, ∃ tt : Addr, ∃ kf : ClassId, ∃ kt : ClassId, ∃ oS : Addr, v = none ∧ Fr n0 L ∧ Keep h0 h [a1] ∧ h0.size ≤ tf ∧ h0.size ≤ tt ∧ h0.size ≤ oS ∧ Fld Z h a1 c_5 "version" "J" (.long 0) ∧ Fld Z h a1 c_5 "touchedFrom" "[J" (.ref tf) ∧ Fld Z h a1 c_5 "touchedTo" "[J" (.ref tt) ∧ Fld Z h a1 c_5 "steps" "Lcom/example/slackline/slackline/replay/Steps;" (.ref oS) ∧ Arv Z h tf kf .long (64 : Int32) (own_zl 64) (.long 0) ∧ Arv Z h tt kt .long (64 : Int32) (own_zl 64) (.long 0) ∧ Inv Z a0 h oS oS (0 : Int) ∧ (a1 < oS) ∧ (tf < oS) ∧ (tt < oS) ∧ tf ≠ tt
set_option maxRecDepth 65536 in
set_option maxHeartbeats 40000000 in
theorem rm3 (l : Launch) (Z : State) (a0 : Array Value) (hw : ∀ d ∈ tables_1, d.before a0 Z = true) (ws : List Jvm.Cond) (a1 : Addr) (a2 : Addr) (k2 : ClassId) (h0 : Heap) (n0 : Nat) (Z0 : n0 ≤ h0.size) (E0 : Exa Z h0 a1 c_5) (F_touchedFrom : Fld Z h0 a1 c_5 "touchedFrom" "[J" .null) (F_touchedTo : Fld Z h0 a1 c_5 "touchedTo" "[J" .null) (F_oneStretch : Fld Z h0 a1 c_5 "oneStretch" "[J" .null) (F_capacity : Fld Z h0 a1 c_5 "capacity" "[I" .null) (F_kinds : Fld Z h0 a1 c_5 "kinds" "I" (.int 0)) (F_steps : Fld Z h0 a1 c_5 "steps" "Lcom/example/slackline/slackline/replay/Steps;" .null) (F_noChanges : Fld Z h0 a1 c_5 "noChanges" "Lcom/example/slackline/slackline/replay/DraftSteps;" .null) (F_walk : Fld Z h0 a1 c_5 "walk" "Lcom/example/slackline/slackline/replay/Plan$Walk;" .null) (F_noNeeds : Fld Z h0 a1 c_5 "noNeeds" "[I" .null) (F_version : Fld Z h0 a1 c_5 "version" "J" (.long 0)) (E1 : Exa Z h0 a2 "[I") (A1 : Arv Z h0 a2 k2 .int (1 : Int32) [(.int 1)] (.int 0)) (g1 : n0 ≤ a1) (n1 : a1 ≠ a2) :
    MetFree l y_28 (head1 (Jvm.Cond.code y_28 prog_91_method_2_code 3 none :: ws) ({ frames := 4, cells := 30, slots := 401, locals := 67 } : Room)) (fun a U => a = #[(.ref a1), (.ref a2), (.int 4)] ∧ Z.Warmed39 U.vm ∧ U.heap = h0) (fun _ _ _ _ _ => True) (fun _ U o U' => ∃ v L, o = .returned v ∧ Q3 Z a0 a1 a2 k2 h0 n0 v U'.heap L ∧ FrameEnd U o U' L ({ frames := 4, cells := 30, slots := 401, locals := 67 } : Room).cells ({ frames := 4, cells := 30, slots := 401, locals := 67 } : Room).slots) := by
  refine MetFree.of_bodySF (plainFor_of_name pn_3) hisR ?_
  intro p e s m args below meth c s₁ Bd hml0 hP hK
  obtain ⟨rfl, hZ, hh⟩ := hP
  have hx := Bd.exec
  have hby := Bd.bytes
  have hml : c.maxLocals = 3 := hml0
  have hown : s.vm.findClass "com/example/slackline/slackline/replay/Plan" = some m.cls := findClass_of_methodNamed Bd.named
  have hnm := (name_of_methodNamed Bd.named Bd.method).1
  have X0 : Stand p l e ({ frames := 4, cells := 30, slots := 401, locals := 67 } : Room) s m #[(.ref a1), (.ref a2), (.int 4)] below meth c s₁ [] 0 0 := Stand.of_body Bd
  have e0 : s₁.heap = h0 := by rw [← hh, Bd.state]; rfl
  have N0 := Fr.nil n0
  have H : ∀ (k : Nat) {i : Nat} {r : Instr × Nat}, dt3[k]? = some (i, r) → decode c.code i = .ok r := fun _ i r q => hb hby (dk3 (i, r) (List.mem_of_getElem? q))
  have K0 : Keep h0 h0 [a1] := Keep.refl h0 [a1]
  obtain ⟨F0, hF0⟩ : ∃ F : JFrame, F = entryFrame m #[(.ref a1), (.ref a2), (.int 4)] 3 := ⟨_, rfl⟩
  have pre0 : ∀ t, Steps p.tables e below (s₁.setTop F0) t → Steps p.tables e below (s₁.setTop (entryFrame m #[(.ref a1), (.ref a2), (.int 4)] 3)) t := fun t k => hF0 ▸ k
  have go0 : Go p e below s₁ F0 s₁ (mkF m 0 #[vr a1, vr a2, vi 4] []) := fun t k => castTop (hF0.trans (ef_3 m a1 a2)) k
  have go1 := (s_aloadN go0 X0 hx (H 0 rfl) rfl rfl)
  obtain ⟨T2, X2, e2, go2⟩ := w_1 go1 (initO X0 hx hZ hown (own_w hw 16 rfl) (own_w hw 17 rfl) (own_w hw 18 rfl) e0 (g := mkF m _ _ _) rfl (by rw [hml]; rfl) rfl (H 1 rfl) (by decide) (W := 0) (by show 2 * 0 + _ ≤ _; exact Nat.le_of_eq rfl) (by decide))
  have go3 := (s_bipush (s_aloadN go2 X2 hx (H 2 rfl) rfl rfl) X2 hx (H 3 rfl) (v := 64) rfl)
  obtain ⟨T4, h4, k4, X4, e4, E4, A4, go4⟩ := w_3 go3 (newP X2 hx hZ (own_w hw 19 rfl) e2 (g := mkF m _ _ _) rfl (H 4 rfl) rfl (by decide) (cap := 64) (by decide) (by decide) (by decide) (by decide))
  obtain ⟨b4, gz4⟩ : ∃ z, z = h0.size := ⟨_, rfl⟩
  rw [← gz4] at A4 go4
  have l5 := Nat.lt_of_lt_of_le E0.lt (Nat.le_of_eq gz4.symm)
  have l6 := Nat.lt_of_lt_of_le E1.lt (Nat.le_of_eq gz4.symm)
  have g_b4 := Nat.le_trans Z0 (Nat.le_of_eq gz4.symm)
  have sz_b4 := Nat.le_trans K0.1 (Nat.le_of_eq gz4.symm)
  have K7 : Keep h0 h4 [a1] := K0.ext E4
  have Z7 : n0 ≤ h4.size := Nat.le_trans Z0 E4.1
  have V4 : Arv Z h4 b4 k4 .long (64 : Int32) (own_zl 64) (.long 0) := (Arv.new A4 (by decide)).pad (pad_rep [] (.long 0) 64)
  have F8 := E0.ext E4
  have F9 := F_touchedFrom.ext E4
  obtain ⟨T10, h10, X10, e10, W10, go10⟩ := w_2 go4 (putF X4 hx hZ hown (host := "") (Or.inl (own_w hw 20 rfl)) Via.refl e4 F9 F8 (Or.inr ⟨(own_w hw 21 rfl), rfl, hnm⟩) (own_w hw 11 rfl) (ty := (.array .long)) (by decide) rfl rfl (g := mkF m _ _ _) rfl rfl (H 5 rfl))
  have Fw10 : Fld Z h10 a1 c_5 "touchedFrom" "[J" (.ref b4) := Fld.same W10 F9
  have K11 : Keep h0 h10 [a1] := K7.wr W10 (Or.inl (List.mem_of_getElem? (i := 0) rfl))
  have Z11 : n0 ≤ h10.size := Nat.le_trans Z7 (Keep.of_wr W10).1
  have N10 := Fr.snoc X10 N0 g1
  have go12 := (s_bipush (s_aloadN go10 X10 hx (H 6 rfl) rfl rfl) X10 hx (H 7 rfl) (v := 64) rfl)
  obtain ⟨T13, h13, k13, X13, e13, E13, A13, go13⟩ := w_3 go12 (newP X10 hx hZ (own_w hw 19 rfl) e10 (g := mkF m _ _ _) rfl (H 8 rfl) rfl (by decide) (cap := 64) (by decide) (by decide) (by decide) (by decide))
  obtain ⟨b13, gz13⟩ : ∃ z, z = h10.size := ⟨_, rfl⟩
  rw [← gz13] at A13 go13
  have F14 := F8.wr W10
  have l15 := Nat.lt_of_lt_of_le F14.lt (Nat.le_of_eq gz13.symm)
  have F16 := (E1.ext E4).wr W10
  have l17 := Nat.lt_of_lt_of_le F16.lt (Nat.le_of_eq gz13.symm)
  have F18 := V4.other W10 (Ne.symm (Nat.ne_of_lt l5))
  have l19 := Nat.lt_of_lt_of_le F18.lt (Nat.le_of_eq gz13.symm)
  have g_b13 := Nat.le_trans Z11 (Nat.le_of_eq gz13.symm)
  have sz_b13 := Nat.le_trans K11.1 (Nat.le_of_eq gz13.symm)
  have K20 : Keep h0 h13 [a1] := K11.ext E13
  have Z20 : n0 ≤ h13.size := Nat.le_trans Z11 E13.1
  have V13 : Arv Z h13 b13 k13 .long (64 : Int32) (own_zl 64) (.long 0) := (Arv.new A13 (by decide)).pad (pad_rep [] (.long 0) 64)
  have F21 := F14.ext E13
  have F22 := ((F_touchedTo.ext E4).other W10 (Or.inr (slot_ne (Or.inr (own_w hw 23 rfl)) (Or.inr (own_w hw 21 rfl)) (by decide) (t := (.array .long)) (t' := (.array .long)) (by decide) (by decide)))).ext E13
  obtain ⟨T23, h23, X23, e23, W23, go23⟩ := w_2 go13 (putF X13 hx hZ hown (host := "") (Or.inl (own_w hw 22 rfl)) Via.refl e13 F22 F21 (Or.inr ⟨(own_w hw 23 rfl), rfl, hnm⟩) (own_w hw 11 rfl) (ty := (.array .long)) (by decide) rfl rfl (g := mkF m _ _ _) rfl rfl (H 9 rfl))
  have Fw23 : Fld Z h23 a1 c_5 "touchedTo" "[J" (.ref b13) := Fld.same W23 F22
  have K24 : Keep h0 h23 [a1] := K20.wr W23 (Or.inl (List.mem_of_getElem? (i := 0) rfl))
  have Z24 : n0 ≤ h23.size := Nat.le_trans Z20 (Keep.of_wr W23).1
  have N23 := Fr.snoc X23 N10 g1
  have go25 := (s_iconst (s_aloadN go23 X23 hx (H 10 rfl) rfl rfl) X23 hx (H 11 rfl) (v := 2) rfl)
  obtain ⟨T26, h26, k26, X26, e26, E26, A26, go26⟩ := w_3 go25 (newP X23 hx hZ (own_w hw 19 rfl) e23 (g := mkF m _ _ _) rfl (H 12 rfl) rfl (by decide) (cap := 2) (by decide) (by decide) (by decide) (by decide))
  obtain ⟨b26, gz26⟩ : ∃ z, z = h23.size := ⟨_, rfl⟩
  rw [← gz26] at A26 go26
  have F27 := F21.wr W23
  have l28 := Nat.lt_of_lt_of_le F27.lt (Nat.le_of_eq gz26.symm)
  have F29 := (F16.ext E13).wr W23
  have l30 := Nat.lt_of_lt_of_le F29.lt (Nat.le_of_eq gz26.symm)
  have F31 := (F18.ext E13).other W23 (Ne.symm (Nat.ne_of_lt l5))
  have l32 := Nat.lt_of_lt_of_le F31.lt (Nat.le_of_eq gz26.symm)
  have F33 := V13.other W23 (Ne.symm (Nat.ne_of_lt l15))
  have l34 := Nat.lt_of_lt_of_le F33.lt (Nat.le_of_eq gz26.symm)
  have g_b26 := Nat.le_trans Z24 (Nat.le_of_eq gz26.symm)
  have sz_b26 := Nat.le_trans K24.1 (Nat.le_of_eq gz26.symm)
  have K35 : Keep h0 h26 [a1] := K24.ext E26
  have Z35 : n0 ≤ h26.size := Nat.le_trans Z24 E26.1
  have V26 : Arv Z h26 b26 k26 .long (2 : Int32) [(.long 0), (.long 0)] (.long 0) := (Arv.new A26 (by decide)).pad (pad_rep [] (.long 0) 2)
  have F36 := F27.ext E26
  have F37 := ((((F_oneStretch.ext E4).other W10 (Or.inr (slot_ne (Or.inr (own_w hw 25 rfl)) (Or.inr (own_w hw 21 rfl)) (by decide) (t := (.array .long)) (t' := (.array .long)) (by decide) (by decide)))).ext E13).other W23 (Or.inr (slot_ne (Or.inr (own_w hw 25 rfl)) (Or.inr (own_w hw 23 rfl)) (by decide) (t := (.array .long)) (t' := (.array .long)) (by decide) (by decide)))).ext E26
  obtain ⟨T38, h38, X38, e38, W38, go38⟩ := w_2 go26 (putF X26 hx hZ hown (host := "") (Or.inl (own_w hw 24 rfl)) Via.refl e26 F37 F36 (Or.inr ⟨(own_w hw 25 rfl), rfl, hnm⟩) (own_w hw 11 rfl) (ty := (.array .long)) (by decide) rfl rfl (g := mkF m _ _ _) rfl rfl (H 13 rfl))
  have Fw38 : Fld Z h38 a1 c_5 "oneStretch" "[J" (.ref b26) := Fld.same W38 F37
  have K39 : Keep h0 h38 [a1] := K35.wr W38 (Or.inl (List.mem_of_getElem? (i := 0) rfl))
  have Z39 : n0 ≤ h38.size := Nat.le_trans Z35 (Keep.of_wr W38).1
  have N38 := Fr.snoc X38 N23 g1
  have F40 := (((((A1.ext E4).other W10 (Ne.symm n1)).ext E13).other W23 (Ne.symm n1)).ext E26).other W38 (Ne.symm n1)
  have go41 := (s_aloadN go38 X38 hx (H 14 rfl) rfl rfl)
  obtain ⟨cl42, Ar42, -, Sz42, Nn42, -, -⟩ := id F40
  have F43 := (F29.ext E26).wr W38
  have go44 := (s_aloadN (s_aloadN (s_icmpYes (s_bipush (s_len go41 X38 hx hZ e38 Ar42 Sz42 Nn42 (H 15 rfl)) X38 hx (H 16 rfl) (v := 32) rfl) X38 hx (H 17 rfl) (pc' := 49) rfl (by decide) (flt (by decide : ¬ ((32 : Int32) < 1))).2.2.2) X38 hx (H 18 rfl) rfl rfl) X38 hx (H 19 rfl) rfl rfl)
  obtain ⟨T45, h45, X45, e45, E45, A45, Q45, go45⟩ := w_5 go44 (own_cloneI X38 hx hZ hown (own_w hw 26 rfl) (own_w hw 27 rfl) (own_w hw 31 rfl) (own_w hw 29 rfl) (own_w hw 30 rfl) (own_w hw 32 rfl) e38 (LI.of_arv F40) F43 (g := mkF m _ _ _) rfl (by rw [hml]; rfl) rfl (H 20 rfl) (by decide) (W := 1) (cap := 1) (by show 2 * 0 + _ ≤ _; exact Nat.le_of_eq rfl) (by decide) (by decide) (by decide) (by decide))
  obtain ⟨b45, gz45⟩ : ∃ z, z = h38.size := ⟨_, rfl⟩
  rw [← gz45] at A45 Q45 go45
  have F46 := F36.wr W38
  have l47 := Nat.lt_of_lt_of_le F46.lt (Nat.le_of_eq gz45.symm)
  have l48 := Nat.lt_of_lt_of_le F43.lt (Nat.le_of_eq gz45.symm)
  have F49 := (F31.ext E26).other W38 (Ne.symm (Nat.ne_of_lt l5))
  have l50 := Nat.lt_of_lt_of_le F49.lt (Nat.le_of_eq gz45.symm)
  have F51 := (F33.ext E26).other W38 (Ne.symm (Nat.ne_of_lt l15))
  have l52 := Nat.lt_of_lt_of_le F51.lt (Nat.le_of_eq gz45.symm)
  have F53 := V26.other W38 (Ne.symm (Nat.ne_of_lt l28))
  have l54 := Nat.lt_of_lt_of_le F53.lt (Nat.le_of_eq gz45.symm)
  have g_b45 := Nat.le_trans Z39 (Nat.le_of_eq gz45.symm)
  have sz_b45 := Nat.le_trans K39.1 (Nat.le_of_eq gz45.symm)
  have K55 : Keep h0 h45 [a1] := K39.ext E45
  have Z55 : n0 ≤ h45.size := Nat.le_trans Z39 E45.1
  obtain ⟨T56, X56, e56, go56⟩ := w_1 go45 (castY X45 hx hZ hown (own_w hw 33 rfl) e45 (Ins.self Q45) (g := mkF m _ _ _) rfl rfl (H 21 rfl))
  have F57 := F46.ext E45
  have F58 := ((((((F_capacity.ext E4).other W10 (Or.inr (slot_ne (Or.inr (own_w hw 36 rfl)) (Or.inr (own_w hw 21 rfl)) (by decide) (t := (.array .int)) (t' := (.array .long)) (by decide) (by decide)))).ext E13).other W23 (Or.inr (slot_ne (Or.inr (own_w hw 36 rfl)) (Or.inr (own_w hw 23 rfl)) (by decide) (t := (.array .int)) (t' := (.array .long)) (by decide) (by decide)))).ext E26).other W38 (Or.inr (slot_ne (Or.inr (own_w hw 36 rfl)) (Or.inr (own_w hw 25 rfl)) (by decide) (t := (.array .int)) (t' := (.array .long)) (by decide) (by decide)))).ext E45
  obtain ⟨T59, h59, X59, e59, W59, go59⟩ := w_2 go56 (putF X56 hx hZ hown (host := "") (Or.inl (own_w hw 35 rfl)) Via.refl e56 F58 F57 (Or.inr ⟨(own_w hw 36 rfl), rfl, hnm⟩) (own_w hw 11 rfl) (ty := (.array .int)) (by decide) rfl rfl (g := mkF m _ _ _) rfl rfl (H 22 rfl))
  have Fw59 : Fld Z h59 a1 c_5 "capacity" "[I" (.ref b45) := Fld.same W59 F58
  have K60 : Keep h0 h59 [a1] := K55.wr W59 (Or.inl (List.mem_of_getElem? (i := 0) rfl))
  have Z60 : n0 ≤ h59.size := Nat.le_trans Z55 (Keep.of_wr W59).1
  have N59 := Fr.snoc X59 N38 g1
  have F61 := (F40.ext E45).other W59 (Ne.symm n1)
  have go62 := (s_aloadN (s_aloadN go59 X59 hx (H 23 rfl) rfl rfl) X59 hx (H 24 rfl) rfl rfl)
  obtain ⟨cl63, Ar63, -, Sz63, Nn63, -, -⟩ := id F61
  have F64 := F57.wr W59
  have F65 := (((((((F_kinds.ext E4).other W10 (Or.inr (slot_ne (Or.inr (own_w hw 38 rfl)) (Or.inr (own_w hw 21 rfl)) (by decide) (t := .int) (t' := (.array .long)) (by decide) (by decide)))).ext E13).other W23 (Or.inr (slot_ne (Or.inr (own_w hw 38 rfl)) (Or.inr (own_w hw 23 rfl)) (by decide) (t := .int) (t' := (.array .long)) (by decide) (by decide)))).ext E26).other W38 (Or.inr (slot_ne (Or.inr (own_w hw 38 rfl)) (Or.inr (own_w hw 25 rfl)) (by decide) (t := .int) (t' := (.array .long)) (by decide) (by decide)))).ext E45).other W59 (Or.inr (slot_ne (Or.inr (own_w hw 38 rfl)) (Or.inr (own_w hw 36 rfl)) (by decide) (t := .int) (t' := (.array .int)) (by decide) (by decide)))
  have go66 := (s_len go62 X59 hx hZ e59 Ar63 Sz63 Nn63 (H 25 rfl))
  obtain ⟨T67, h67, X67, e67, W67, go67⟩ := w_2 go66 (putF X59 hx hZ hown (host := "") (Or.inl (own_w hw 37 rfl)) Via.refl e59 F65 F64 (Or.inr ⟨(own_w hw 38 rfl), rfl, hnm⟩) (own_w hw 11 rfl) (ty := .int) (by decide) rfl rfl (g := mkF m _ _ _) rfl rfl (H 26 rfl))
  have Fw67 : Fld Z h67 a1 c_5 "kinds" "I" (.int 1) := Fld.same W67 F65
  have K68 : Keep h0 h67 [a1] := K60.wr W67 (Or.inl (List.mem_of_getElem? (i := 0) rfl))
  have Z68 : n0 ≤ h67.size := Nat.le_trans Z60 (Keep.of_wr W67).1
  have N67 := Fr.snoc X67 N59 g1
  have go69 := (s_aloadN go67 X67 hx (H 27 rfl) rfl rfl)
  obtain ⟨T70, h70, X70, e70, E70, A70, D70, -, go70⟩ := w_4 go69 (newO X67 hx hZ hown (own_w hw 39 rfl) (own_w hw 40 rfl) (own_w hw 41 rfl) e67 (g := mkF m _ _ _) rfl (H 28 rfl) (by decide) (by decide))
  obtain ⟨b70, gz70⟩ : ∃ z, z = h67.size := ⟨_, rfl⟩
  rw [← gz70] at A70 D70 go70
  have F71 := F64.wr W67
  have l72 := Nat.lt_of_lt_of_le F71.lt (Nat.le_of_eq gz70.symm)
  have F73 := ((F43.ext E45).wr W59).wr W67
  have l74 := Nat.lt_of_lt_of_le F73.lt (Nat.le_of_eq gz70.symm)
  have F75 := ((F49.ext E45).other W59 (Ne.symm (Nat.ne_of_lt l5))).other W67 (Ne.symm (Nat.ne_of_lt l5))
  have l76 := Nat.lt_of_lt_of_le F75.lt (Nat.le_of_eq gz70.symm)
  have F77 := ((F51.ext E45).other W59 (Ne.symm (Nat.ne_of_lt l15))).other W67 (Ne.symm (Nat.ne_of_lt l15))
  have l78 := Nat.lt_of_lt_of_le F77.lt (Nat.le_of_eq gz70.symm)
  have F79 := ((F53.ext E45).other W59 (Ne.symm (Nat.ne_of_lt l28))).other W67 (Ne.symm (Nat.ne_of_lt l28))
  have l80 := Nat.lt_of_lt_of_le F79.lt (Nat.le_of_eq gz70.symm)
  have F81 := (Q45.wr W59).wr W67
  have l82 := Nat.lt_of_lt_of_le F81.lt (Nat.le_of_eq gz70.symm)
  have g_b70 := Nat.le_trans Z68 (Nat.le_of_eq gz70.symm)
  have sz_b70 := Nat.le_trans K68.1 (Nat.le_of_eq gz70.symm)
  have K83 : Keep h0 h70 [a1] := K68.ext E70
  have Z83 : n0 ≤ h70.size := Nat.le_trans Z68 E70.1
  have F84 := feN A70 D70 (Or.inl (own_w hw 49 rfl)) pf_11 (own_w hw 40 rfl) (v := .null) rfl
  have F85 := feN A70 D70 (Or.inl (own_w hw 52 rfl)) pf_5 (own_w hw 40 rfl) (v := .null) rfl
  have F86 := feN A70 D70 (Or.inr (own_w hw 56 rfl)) pf_6 (own_w hw 40 rfl) (v := .null) rfl
  have F87 := feN A70 D70 (Or.inr (own_w hw 58 rfl)) pf_0 (own_w hw 40 rfl) (v := (.int 0)) rfl
  have F88 := feN A70 D70 (Or.inr (own_w hw 60 rfl)) pf_6 (own_w hw 40 rfl) (v := .null) rfl
  have F89 := feN A70 D70 (Or.inr (own_w hw 70 rfl)) pf_0 (own_w hw 40 rfl) (v := (.int 0)) rfl
  have F90 := feN A70 D70 (Or.inl (own_w hw 115 rfl)) pf_0 (own_w hw 40 rfl) (v := (.int 0)) rfl
  have F91 := feN A70 D70 (Or.inl (own_w hw 118 rfl)) pf_5 (own_w hw 40 rfl) (v := .null) rfl
  have F92 := feN A70 D70 (Or.inl (own_w hw 166 rfl)) pf_0 (own_w hw 40 rfl) (v := (.int 0)) rfl
  have F93 := feN A70 D70 (Or.inl (own_w hw 217 rfl)) pf_0 (own_w hw 40 rfl) (v := (.int 0)) rfl
  have F94 := feN A70 D70 (Or.inl (own_w hw 219 rfl)) pf_0 (own_w hw 40 rfl) (v := (.int 0)) rfl
  have F95 := (F61.other W67 (Ne.symm n1)).ext E70
  have F96 := F73.ext E70
  have go97 := (s_iloadN (s_aloadN (s_dup go70 X70 hx (H 29 rfl) rfl) X70 hx (H 30 rfl) rfl rfl) X70 hx (H 31 rfl) rfl)
  obtain ⟨_, _, ⟨T98, L98, k98, n98⟩, -, X98, ⟨Lc98, hQ98, l98, y98, z98⟩, g98⟩ := c_b go97 (X70.specialBack hx (y := y_21) rfl hown (mvT hZ (own_w hw 42 rfl)) (mvT hZ (own_w hw 43 rfl)) (mvT hZ (own_w hw 44 rfl)) (by decide) (backOf (W := 2) (rm5 l Z a0 hw [] b70 a2 h70 b70 (Nat.le_trans (Nat.le_of_eq gz70) E70.1) F84 F85 F86 F87 F88 F89 F90 F91 F92 F93 F94 (LI.of_arv F95) F96 (Nat.le_refl _)) hZ (own_w hw 44 rfl) (own_w hw 41 rfl) (by decide) (by decide)) (g := mkF m _ _ _) rfl (by rw [hml]; rfl) (Steps.refl _) (a := b70) (argsL := [(.ref a2), (.int 4)]) (rest := [(.ref b70), (.ref a1)]) (lenOf pd3_0 rfl) rfl (by show 2 * 0 + _ ≤ _; exact Nat.le_of_eq rfl) (H 32 rfl) (fun _ _ => ⟨rfl, e70, (by decide : 5 + 13 ≤ _), (by decide : 144 + 43 ≤ _)⟩))
  dsimp only [Pt.U, Pt.locs, Pt.cells, Pt.slots] at X98 l98 y98 z98 g98 hQ98
  subst l98 y98 z98
  obtain ⟨rfl, Nq98, Kn98, iv_98⟩ := hQ98
  have N98 := Fr.app N67 (Fr.mono Nq98 g_b70)
  have K99 := keep_kn K83 Kn98 sz_b70
  have Z99 := Nat.le_trans Z83 Kn98.1
  have go100 := cv g98
  have F101 := exaS (F71.ext E70) (Kn98.2 _ l72)
  have F102 := fldS ((((((((((F_steps.ext E4).other W10 (Or.inr (slot_ne (Or.inr (own_w hw 120 rfl)) (Or.inr (own_w hw 21 rfl)) (by decide) (t := (.object "com/example/slackline/slackline/replay/Steps")) (t' := (.array .long)) (by decide) (by decide)))).ext E13).other W23 (Or.inr (slot_ne (Or.inr (own_w hw 120 rfl)) (Or.inr (own_w hw 23 rfl)) (by decide) (t := (.object "com/example/slackline/slackline/replay/Steps")) (t' := (.array .long)) (by decide) (by decide)))).ext E26).other W38 (Or.inr (slot_ne (Or.inr (own_w hw 120 rfl)) (Or.inr (own_w hw 25 rfl)) (by decide) (t := (.object "com/example/slackline/slackline/replay/Steps")) (t' := (.array .long)) (by decide) (by decide)))).ext E45).other W59 (Or.inr (slot_ne (Or.inr (own_w hw 120 rfl)) (Or.inr (own_w hw 36 rfl)) (by decide) (t := (.object "com/example/slackline/slackline/replay/Steps")) (t' := (.array .int)) (by decide) (by decide)))).other W67 (Or.inr (slot_ne (Or.inr (own_w hw 120 rfl)) (Or.inr (own_w hw 38 rfl)) (by decide) (t := (.object "com/example/slackline/slackline/replay/Steps")) (t' := .int) (by decide) (by decide)))).ext E70) (Kn98.2 _ l72)
  obtain ⟨T103, h103, X103, e103, W103, go103⟩ := w_2 go100 (putF X98 hx hZ hown (host := "") (Or.inl (own_w hw 119 rfl)) Via.refl rfl F102 F101 (Or.inr ⟨(own_w hw 120 rfl), rfl, hnm⟩) (own_w hw 11 rfl) (ty := (.object "com/example/slackline/slackline/replay/Steps")) (by decide) rfl rfl (g := mkF m _ _ _) rfl rfl (H 33 rfl))
  have Fw103 : Fld Z h103 a1 c_5 "steps" "Lcom/example/slackline/slackline/replay/Steps;" (.ref b70) := Fld.same W103 F102
  have K104 : Keep h0 h103 [a1] := K99.wr W103 (Or.inl (List.mem_of_getElem? (i := 0) rfl))
  have Z104 : n0 ≤ h103.size := Nat.le_trans Z99 (Keep.of_wr W103).1
  have N103 := Fr.snoc X103 N98 g1
  have go105 := (s_aloadN go103 X103 hx (H 34 rfl) rfl rfl)
  obtain ⟨T106, h106, X106, e106, E106, A106, D106, -, go106⟩ := w_4 go105 (newO X103 hx hZ hown (own_w hw 121 rfl) (own_w hw 122 rfl) (own_w hw 123 rfl) e103 (g := mkF m _ _ _) rfl (H 35 rfl) (by decide) (by decide))
  obtain ⟨b106, gz106⟩ : ∃ z, z = h103.size := ⟨_, rfl⟩
  rw [← gz106] at A106 D106 go106
  have F107 := F101.wr W103
  have l108 := Nat.lt_of_lt_of_le F107.lt (Nat.le_of_eq gz106.symm)
  have F109 := (exaS F96 (Kn98.2 _ l74)).wr W103
  have l110 := Nat.lt_of_lt_of_le F109.lt (Nat.le_of_eq gz106.symm)
  have F111 := (arvS (F75.ext E70) (Kn98.2 _ l76)).other W103 (Ne.symm (Nat.ne_of_lt l5))
  have l112 := Nat.lt_of_lt_of_le F111.lt (Nat.le_of_eq gz106.symm)
  have F113 := (arvS (F77.ext E70) (Kn98.2 _ l78)).other W103 (Ne.symm (Nat.ne_of_lt l15))
  have l114 := Nat.lt_of_lt_of_le F113.lt (Nat.le_of_eq gz106.symm)
  have F115 := (arvS (F79.ext E70) (Kn98.2 _ l80)).other W103 (Ne.symm (Nat.ne_of_lt l28))
  have l116 := Nat.lt_of_lt_of_le F115.lt (Nat.le_of_eq gz106.symm)
  have F117 := (exaS (F81.ext E70) (Kn98.2 _ l82)).wr W103
  have l118 := Nat.lt_of_lt_of_le F117.lt (Nat.le_of_eq gz106.symm)
  have M119_0 : T98.heap.size ≤ T98.heap.size := Nat.le_refl _
  have O119_0 : OUT b70 T98.heap.size T98.heap T98.heap := OUT.refl _ _ _
  have O119_1 : OUT b70 T98.heap.size T98.heap h103 := O119_0.wr W103 (Or.inl l72)
  have M119_1 : T98.heap.size ≤ h103.size := Nat.le_trans M119_0 (Keep.of_wr W103).1
  have F120 := iv_98.same M119_1 O119_1
  have l121 := Nat.lt_of_lt_of_le (Inv.lt F120) (Nat.le_of_eq gz106.symm)
  have g_b106 := Nat.le_trans Z104 (Nat.le_of_eq gz106.symm)
  have sz_b106 := Nat.le_trans K104.1 (Nat.le_of_eq gz106.symm)
  have K122 : Keep h0 h106 [a1] := K104.ext E106
  have Z122 : n0 ≤ h106.size := Nat.le_trans Z104 E106.1
  have F123 : Fld Z h106 b106 c_6 "changeTimes" "[J" .null := D106 (Or.inl (own_w hw 129 rfl)) (ty := (.array .long)) (by decide)
  have F124 : Fld Z h106 b106 c_6 "stepOf" "[I" .null := D106 (Or.inl (own_w hw 131 rfl)) (ty := (.array .int)) (by decide)
  have F125 : Fld Z h106 b106 c_6 "inOrder" "[I" .null := D106 (Or.inr (own_w hw 133 rfl)) (ty := (.array .int)) (by decide)
  have F126 : Fld Z h106 b106 c_6 "time" "[J" .null := D106 (Or.inl (own_w hw 135 rfl)) (ty := (.array .long)) (by decide)
  have F127 : Fld Z h106 b106 c_6 "finishing" "[I" .null := D106 (Or.inl (own_w hw 137 rfl)) (ty := (.array .int)) (by decide)
  have F128 : Fld Z h106 b106 c_6 "kinds" "I" (.int 0) := D106 (Or.inr (own_w hw 139 rfl)) (ty := .int) (by decide)
  have F129 : Fld Z h106 b106 c_6 "units" "[J" .null := D106 (Or.inl (own_w hw 141 rfl)) (ty := (.array .long)) (by decide)
  have F130 : Fld Z h106 b106 c_6 "size" "I" (.int 0) := D106 (Or.inl (own_w hw 143 rfl)) (ty := .int) (by decide)
  have F131 := ((fldS (Fw67.ext E70) (Kn98.2 _ l72)).other W103 (Or.inr (slot_ne (Or.inr (own_w hw 38 rfl)) (Or.inr (own_w hw 120 rfl)) (by decide) (t := .int) (t' := (.object "com/example/slackline/slackline/replay/Steps")) (by decide) (by decide)))).ext E106
  have go132 := (s_aloadN (s_dup go106 X106 hx (H 36 rfl) rfl) X106 hx (H 37 rfl) rfl rfl)
  obtain ⟨T133, X133, e133, go133⟩ := gF go132 X106 hx hZ hown (own_w hw 37 rfl) e106 F131 (H 38 rfl)
  obtain ⟨_, _, ⟨T134, L134, k134, n134⟩, -, X134, ⟨Lc134, hQ134, l134, y134, z134⟩, g134⟩ := c_b go133 (X133.specialBack hx (y := y_22) rfl hown (mvT hZ (own_w hw 124 rfl)) (mvT hZ (own_w hw 125 rfl)) (mvT hZ (own_w hw 126 rfl)) (by decide) (backOf (W := 2) (rm10 l Z a0 hw [] b106 h106 n0 Z122 A106 F123 F124 F125 F126 F127 F128 F129 F130 g_b106) hZ (own_w hw 126 rfl) (own_w hw 123 rfl) (by decide) (by decide)) (g := mkF m _ _ _) rfl (by rw [hml]; rfl) (Steps.refl _) (a := b106) (argsL := [(.int 1)]) (rest := [(.ref b106), (.ref a1)]) (lenOf pd3_1 rfl) rfl (by show 2 * 0 + _ ≤ _; exact Nat.le_of_eq rfl) (H 39 rfl) (fun _ _ => ⟨rfl, e133, (by decide : 19 + 6 ≤ _), (by decide : 195 + 192 ≤ _)⟩))
  dsimp only [Pt.U, Pt.locs, Pt.cells, Pt.slots] at X134 l134 y134 z134 g134 hQ134
  subst l134 y134 z134
  obtain ⟨rfl, Nq134, Kc134⟩ := hQ134
  have N134 := Fr.app N103 Nq134
  have K135 : Keep h0 T134.heap [a1] := K122.trans Kc134 (allS (Or.inr sz_b106) all0)
  have Z135 : n0 ≤ T134.heap.size := Nat.le_trans Z122 Kc134.1
  have go136 := cv g134
  have F137 := (F107.ext E106).keep Kc134
  have F138 := (((fldS ((((((((((F_noChanges.ext E4).other W10 (Or.inr (slot_ne (Or.inr (own_w hw 145 rfl)) (Or.inr (own_w hw 21 rfl)) (by decide) (t := (.object "com/example/slackline/slackline/replay/DraftSteps")) (t' := (.array .long)) (by decide) (by decide)))).ext E13).other W23 (Or.inr (slot_ne (Or.inr (own_w hw 145 rfl)) (Or.inr (own_w hw 23 rfl)) (by decide) (t := (.object "com/example/slackline/slackline/replay/DraftSteps")) (t' := (.array .long)) (by decide) (by decide)))).ext E26).other W38 (Or.inr (slot_ne (Or.inr (own_w hw 145 rfl)) (Or.inr (own_w hw 25 rfl)) (by decide) (t := (.object "com/example/slackline/slackline/replay/DraftSteps")) (t' := (.array .long)) (by decide) (by decide)))).ext E45).other W59 (Or.inr (slot_ne (Or.inr (own_w hw 145 rfl)) (Or.inr (own_w hw 36 rfl)) (by decide) (t := (.object "com/example/slackline/slackline/replay/DraftSteps")) (t' := (.array .int)) (by decide) (by decide)))).other W67 (Or.inr (slot_ne (Or.inr (own_w hw 145 rfl)) (Or.inr (own_w hw 38 rfl)) (by decide) (t := (.object "com/example/slackline/slackline/replay/DraftSteps")) (t' := .int) (by decide) (by decide)))).ext E70) (Kn98.2 _ l72)).other W103 (Or.inr (slot_ne (Or.inr (own_w hw 145 rfl)) (Or.inr (own_w hw 120 rfl)) (by decide) (t := (.object "com/example/slackline/slackline/replay/DraftSteps")) (t' := (.object "com/example/slackline/slackline/replay/Steps")) (by decide) (by decide)))).ext E106).keep Kc134 (ninS (Nat.ne_of_lt l108) nin0)
  obtain ⟨T139, h139, X139, e139, W139, go139⟩ := w_2 go136 (putF X134 hx hZ hown (host := "") (Or.inl (own_w hw 144 rfl)) Via.refl rfl F138 F137 (Or.inr ⟨(own_w hw 145 rfl), rfl, hnm⟩) (own_w hw 11 rfl) (ty := (.object "com/example/slackline/slackline/replay/DraftSteps")) (by decide) rfl rfl (g := mkF m _ _ _) rfl rfl (H 40 rfl))
  have Fw139 : Fld Z h139 a1 c_5 "noChanges" "Lcom/example/slackline/slackline/replay/DraftSteps;" (.ref b106) := Fld.same W139 F138
  have K140 : Keep h0 h139 [a1] := K135.wr W139 (Or.inl (List.mem_of_getElem? (i := 0) rfl))
  have Z140 : n0 ≤ h139.size := Nat.le_trans Z135 (Keep.of_wr W139).1
  have N139 := Fr.snoc X139 N134 g1
  have go141 := (s_aloadN go139 X139 hx (H 41 rfl) rfl rfl)
  obtain ⟨T142, h142, X142, e142, E142, A142, D142, -, go142⟩ := w_4 go141 (newO X139 hx hZ hown (own_w hw 146 rfl) (own_w hw 147 rfl) (own_w hw 148 rfl) e139 (g := mkF m _ _ _) rfl (H 42 rfl) (by decide) (by decide))
  obtain ⟨b142, gz142⟩ : ∃ z, z = h139.size := ⟨_, rfl⟩
  rw [← gz142] at A142 D142 go142
  have F143 := F137.wr W139
  have l144 := Nat.lt_of_lt_of_le F143.lt (Nat.le_of_eq gz142.symm)
  have F145 := ((F109.ext E106).keep Kc134).wr W139
  have l146 := Nat.lt_of_lt_of_le F145.lt (Nat.le_of_eq gz142.symm)
  have F147 := ((F111.ext E106).keep Kc134 (ninS (Nat.ne_of_lt l112) nin0)).other W139 (Ne.symm (Nat.ne_of_lt l5))
  have l148 := Nat.lt_of_lt_of_le F147.lt (Nat.le_of_eq gz142.symm)
  have F149 := ((F113.ext E106).keep Kc134 (ninS (Nat.ne_of_lt l114) nin0)).other W139 (Ne.symm (Nat.ne_of_lt l15))
  have l150 := Nat.lt_of_lt_of_le F149.lt (Nat.le_of_eq gz142.symm)
  have F151 := ((F115.ext E106).keep Kc134 (ninS (Nat.ne_of_lt l116) nin0)).other W139 (Ne.symm (Nat.ne_of_lt l28))
  have l152 := Nat.lt_of_lt_of_le F151.lt (Nat.le_of_eq gz142.symm)
  have F153 := ((F117.ext E106).keep Kc134).wr W139
  have l154 := Nat.lt_of_lt_of_le F153.lt (Nat.le_of_eq gz142.symm)
  have M155_0 : h103.size ≤ h103.size := Nat.le_refl _
  have O155_0 : OUT b70 h103.size h103 h103 := OUT.refl _ _ _
  have O155_1 : OUT b70 h103.size h103 h106 := O155_0.ext E106 M155_0
  have M155_1 : h103.size ≤ h106.size := Nat.le_trans M155_0 E106.1
  have O155_2 : OUT b70 h103.size h103 T134.heap := O155_1.keep Kc134 M155_1 (kw1 (Or.inr (Nat.le_trans M155_0 (Nat.le_of_eq gz106.symm))) kw0)
  have M155_2 : h103.size ≤ T134.heap.size := Nat.le_trans M155_1 Kc134.1
  have O155_3 : OUT b70 h103.size h103 h139 := O155_2.wr W139 (Or.inl l72)
  have M155_3 : h103.size ≤ h139.size := Nat.le_trans M155_2 (Keep.of_wr W139).1
  have F156 := F120.same M155_3 O155_3
  have l157 := Nat.lt_of_lt_of_le (Inv.lt F156) (Nat.le_of_eq gz142.symm)
  have F158 := (A106.keep Kc134).wr W139
  have l159 := Nat.lt_of_lt_of_le F158.lt (Nat.le_of_eq gz142.symm)
  have g_b142 := Nat.le_trans Z140 (Nat.le_of_eq gz142.symm)
  have sz_b142 := Nat.le_trans K140.1 (Nat.le_of_eq gz142.symm)
  have K160 : Keep h0 h142 [a1] := K140.ext E142
  have Z160 : n0 ≤ h142.size := Nat.le_trans Z140 E142.1
  have F161 := feN A142 D142 (Or.inr (own_w hw 153 rfl)) pf_9 (own_w hw 147 rfl) (v := .null) rfl
  have F162 := feN A142 D142 (Or.inr (own_w hw 191 rfl)) pf_10 (own_w hw 147 rfl) (v := .null) rfl
  have F163 := feN A142 D142 (Or.inr (own_w hw 194 rfl)) pf_5 (own_w hw 147 rfl) (v := .null) rfl
  have F164 := feN A142 D142 (Or.inr (own_w hw 196 rfl)) pf_5 (own_w hw 147 rfl) (v := .null) rfl
  have M165_0 : h139.size ≤ h139.size := Nat.le_refl _
  have O165_0 : OUT b70 h139.size h139 h139 := OUT.refl _ _ _
  have O165_1 : OUT b70 h139.size h139 h142 := O165_0.ext E142 M165_0
  have M165_1 : h139.size ≤ h142.size := Nat.le_trans M165_0 E142.1
  have F166 := F156.same M165_1 O165_1
  have F167 := (((Fw103.ext E106).keep Kc134 (ninS (Nat.ne_of_lt l108) nin0)).other W139 (Or.inr (slot_ne (Or.inr (own_w hw 120 rfl)) (Or.inr (own_w hw 145 rfl)) (by decide) (t := (.object "com/example/slackline/slackline/replay/Steps")) (t' := (.object "com/example/slackline/slackline/replay/DraftSteps")) (by decide) (by decide)))).ext E142
  have F168 := F143.ext E142
  have F169 := ((F131.keep Kc134 (ninS (Nat.ne_of_lt l108) nin0)).other W139 (Or.inr (slot_ne (Or.inr (own_w hw 38 rfl)) (Or.inr (own_w hw 145 rfl)) (by decide) (t := .int) (t' := (.object "com/example/slackline/slackline/replay/DraftSteps")) (by decide) (by decide)))).ext E142
  have go170 := (s_aloadN (s_dup go142 X142 hx (H 43 rfl) rfl) X142 hx (H 44 rfl) rfl rfl)
  obtain ⟨_, _, ⟨T171, L171, k171, n171⟩, -, X171, ⟨Lc171, hQ171, l171, y171, z171⟩, g171⟩ := c_b go170 (own_specialRef X142 hx hZ (y := y_19) rfl hown (own_w hw 149 rfl) (mvT hZ (own_w hw 150 rfl)) (mvT hZ (own_w hw 151 rfl)) (by decide) (backOf (W := 2) (rm11 l Z a0 hw [] b142 a1 b70 (0 : Int) h142 b70 (Inv.ksz F166) F161 F162 F163 F164 ⟨F168, F167, (Or.inr (own_w hw 120 rfl)), ⟨_, pf_3⟩, ⟨_, (own_w hw 11 rfl)⟩⟩ ⟨F168, F169, (Or.inr (own_w hw 38 rfl)), ⟨_, pf_0⟩, ⟨_, (own_w hw 11 rfl)⟩⟩ F166 (Nat.le_of_lt l157)) hZ (own_w hw 151 rfl) (own_w hw 148 rfl) (by decide) (by decide)) (g := mkF m _ _ _) rfl (by rw [hml]; rfl) (Steps.refl _) (a := b142) (argsL := [(.ref a1)]) (rest := [(.ref b142), (.ref a1)]) (lenOf pd3_2 rfl) rfl (by show 2 * 0 + _ ≤ _; exact Nat.le_of_eq rfl) (H 45 rfl) (fun _ _ => ⟨rfl, e142, (by decide : 26 + 3 ≤ _), (by decide : 394 + 6 ≤ _)⟩))
  dsimp only [Pt.U, Pt.locs, Pt.cells, Pt.slots] at X171 l171 y171 z171 g171 hQ171
  subst l171 y171 z171
  obtain ⟨rfl, Nq171, Kn171, iv_171⟩ := hQ171
  have N171 := Fr.app N139 (Fr.mono Nq171 g_b70)
  have K172 := keep_kn K160 Kn171 sz_b70
  have Z172 := Nat.le_trans Z160 Kn171.1
  have go173 := cv g171
  have F174 := exaS F168 (Kn171.2 _ l72)
  have F175 := fldS ((((((fldS ((((((((((F_walk.ext E4).other W10 (Or.inr (slot_ne (Or.inr (own_w hw 198 rfl)) (Or.inr (own_w hw 21 rfl)) (by decide) (t := (.object "com/example/slackline/slackline/replay/Plan$Walk")) (t' := (.array .long)) (by decide) (by decide)))).ext E13).other W23 (Or.inr (slot_ne (Or.inr (own_w hw 198 rfl)) (Or.inr (own_w hw 23 rfl)) (by decide) (t := (.object "com/example/slackline/slackline/replay/Plan$Walk")) (t' := (.array .long)) (by decide) (by decide)))).ext E26).other W38 (Or.inr (slot_ne (Or.inr (own_w hw 198 rfl)) (Or.inr (own_w hw 25 rfl)) (by decide) (t := (.object "com/example/slackline/slackline/replay/Plan$Walk")) (t' := (.array .long)) (by decide) (by decide)))).ext E45).other W59 (Or.inr (slot_ne (Or.inr (own_w hw 198 rfl)) (Or.inr (own_w hw 36 rfl)) (by decide) (t := (.object "com/example/slackline/slackline/replay/Plan$Walk")) (t' := (.array .int)) (by decide) (by decide)))).other W67 (Or.inr (slot_ne (Or.inr (own_w hw 198 rfl)) (Or.inr (own_w hw 38 rfl)) (by decide) (t := (.object "com/example/slackline/slackline/replay/Plan$Walk")) (t' := .int) (by decide) (by decide)))).ext E70) (Kn98.2 _ l72)).other W103 (Or.inr (slot_ne (Or.inr (own_w hw 198 rfl)) (Or.inr (own_w hw 120 rfl)) (by decide) (t := (.object "com/example/slackline/slackline/replay/Plan$Walk")) (t' := (.object "com/example/slackline/slackline/replay/Steps")) (by decide) (by decide)))).ext E106).keep Kc134 (ninS (Nat.ne_of_lt l108) nin0)).other W139 (Or.inr (slot_ne (Or.inr (own_w hw 198 rfl)) (Or.inr (own_w hw 145 rfl)) (by decide) (t := (.object "com/example/slackline/slackline/replay/Plan$Walk")) (t' := (.object "com/example/slackline/slackline/replay/DraftSteps")) (by decide) (by decide)))).ext E142) (Kn171.2 _ l72)
  obtain ⟨T176, h176, X176, e176, W176, go176⟩ := w_2 go173 (putF X171 hx hZ hown (host := "") (Or.inl (own_w hw 197 rfl)) Via.refl rfl F175 F174 (Or.inr ⟨(own_w hw 198 rfl), rfl, hnm⟩) (own_w hw 11 rfl) (ty := (.object "com/example/slackline/slackline/replay/Plan$Walk")) (by decide) rfl rfl (g := mkF m _ _ _) rfl rfl (H 46 rfl))
  have Fw176 : Fld Z h176 a1 c_5 "walk" "Lcom/example/slackline/slackline/replay/Plan$Walk;" (.ref b142) := Fld.same W176 F175
  have K177 : Keep h0 h176 [a1] := K172.wr W176 (Or.inl (List.mem_of_getElem? (i := 0) rfl))
  have Z177 : n0 ≤ h176.size := Nat.le_trans Z172 (Keep.of_wr W176).1
  have N176 := Fr.snoc X176 N171 g1
  have F178 := (fldS F169 (Kn171.2 _ l72)).other W176 (Or.inr (slot_ne (Or.inr (own_w hw 38 rfl)) (Or.inr (own_w hw 198 rfl)) (by decide) (t := .int) (t' := (.object "com/example/slackline/slackline/replay/Plan$Walk")) (by decide) (by decide)))
  have go179 := (s_aloadN (s_aloadN go176 X176 hx (H 47 rfl) rfl rfl) X176 hx (H 48 rfl) rfl rfl)
  obtain ⟨T180, X180, e180, go180⟩ := gF go179 X176 hx hZ hown (own_w hw 37 rfl) e176 F178 (H 49 rfl)
  obtain ⟨T181, h181, k181, X181, e181, E181, A181, go181⟩ := w_3 go180 (newP X180 hx hZ (own_w hw 9 rfl) e180 (g := mkF m _ _ _) rfl (H 50 rfl) rfl (by decide) (cap := 1) (by decide) (by decide) (by decide) (by decide))
  obtain ⟨b181, gz181⟩ : ∃ z, z = h176.size := ⟨_, rfl⟩
  rw [← gz181] at A181 go181
  have F182 := F174.wr W176
  have l183 := Nat.lt_of_lt_of_le F182.lt (Nat.le_of_eq gz181.symm)
  have F184 := (exaS (F145.ext E142) (Kn171.2 _ l74)).wr W176
  have l185 := Nat.lt_of_lt_of_le F184.lt (Nat.le_of_eq gz181.symm)
  have F186 := (arvS (F147.ext E142) (Kn171.2 _ l76)).other W176 (Ne.symm (Nat.ne_of_lt l5))
  have l187 := Nat.lt_of_lt_of_le F186.lt (Nat.le_of_eq gz181.symm)
  have F188 := (arvS (F149.ext E142) (Kn171.2 _ l78)).other W176 (Ne.symm (Nat.ne_of_lt l15))
  have l189 := Nat.lt_of_lt_of_le F188.lt (Nat.le_of_eq gz181.symm)
  have F190 := (arvS (F151.ext E142) (Kn171.2 _ l80)).other W176 (Ne.symm (Nat.ne_of_lt l28))
  have l191 := Nat.lt_of_lt_of_le F190.lt (Nat.le_of_eq gz181.symm)
  have F192 := (exaS (F153.ext E142) (Kn171.2 _ l82)).wr W176
  have l193 := Nat.lt_of_lt_of_le F192.lt (Nat.le_of_eq gz181.symm)
  have M194_0 : T171.heap.size ≤ T171.heap.size := Nat.le_refl _
  have O194_0 : OUT b70 T171.heap.size T171.heap T171.heap := OUT.refl _ _ _
  have O194_1 : OUT b70 T171.heap.size T171.heap h176 := O194_0.wr W176 (Or.inl l72)
  have M194_1 : T171.heap.size ≤ h176.size := Nat.le_trans M194_0 (Keep.of_wr W176).1
  have F195 := iv_171.same M194_1 O194_1
  have l196 := Nat.lt_of_lt_of_le (Inv.lt F195) (Nat.le_of_eq gz181.symm)
  have g_b181 := Nat.le_trans Z177 (Nat.le_of_eq gz181.symm)
  have sz_b181 := Nat.le_trans K177.1 (Nat.le_of_eq gz181.symm)
  have K197 : Keep h0 h181 [a1] := K177.ext E181
  have Z197 : n0 ≤ h181.size := Nat.le_trans Z177 E181.1
  have V181 : Arv Z h181 b181 k181 .int (1 : Int32) [(.int 0)] (.int 0) := (Arv.new A181 (by decide)).pad (pad_rep [] (.int 0) 1)
  have F198 := F182.ext E181
  have F199 := ((fldS ((((((fldS ((((((((((F_noNeeds.ext E4).other W10 (Or.inr (slot_ne (Or.inr (own_w hw 200 rfl)) (Or.inr (own_w hw 21 rfl)) (by decide) (t := (.array .int)) (t' := (.array .long)) (by decide) (by decide)))).ext E13).other W23 (Or.inr (slot_ne (Or.inr (own_w hw 200 rfl)) (Or.inr (own_w hw 23 rfl)) (by decide) (t := (.array .int)) (t' := (.array .long)) (by decide) (by decide)))).ext E26).other W38 (Or.inr (slot_ne (Or.inr (own_w hw 200 rfl)) (Or.inr (own_w hw 25 rfl)) (by decide) (t := (.array .int)) (t' := (.array .long)) (by decide) (by decide)))).ext E45).other W59 (Or.inr (slot_ne (Or.inr (own_w hw 200 rfl)) (Or.inr (own_w hw 36 rfl)) (by decide) (t := (.array .int)) (t' := (.array .int)) (by decide) (by decide)))).other W67 (Or.inr (slot_ne (Or.inr (own_w hw 200 rfl)) (Or.inr (own_w hw 38 rfl)) (by decide) (t := (.array .int)) (t' := .int) (by decide) (by decide)))).ext E70) (Kn98.2 _ l72)).other W103 (Or.inr (slot_ne (Or.inr (own_w hw 200 rfl)) (Or.inr (own_w hw 120 rfl)) (by decide) (t := (.array .int)) (t' := (.object "com/example/slackline/slackline/replay/Steps")) (by decide) (by decide)))).ext E106).keep Kc134 (ninS (Nat.ne_of_lt l108) nin0)).other W139 (Or.inr (slot_ne (Or.inr (own_w hw 200 rfl)) (Or.inr (own_w hw 145 rfl)) (by decide) (t := (.array .int)) (t' := (.object "com/example/slackline/slackline/replay/DraftSteps")) (by decide) (by decide)))).ext E142) (Kn171.2 _ l72)).other W176 (Or.inr (slot_ne (Or.inr (own_w hw 200 rfl)) (Or.inr (own_w hw 198 rfl)) (by decide) (t := (.array .int)) (t' := (.object "com/example/slackline/slackline/replay/Plan$Walk")) (by decide) (by decide)))).ext E181
  obtain ⟨T200, h200, X200, e200, W200, go200⟩ := w_2 go181 (putF X181 hx hZ hown (host := "") (Or.inl (own_w hw 199 rfl)) Via.refl e181 F199 F198 (Or.inr ⟨(own_w hw 200 rfl), rfl, hnm⟩) (own_w hw 11 rfl) (ty := (.array .int)) (by decide) rfl rfl (g := mkF m _ _ _) rfl rfl (H 51 rfl))
  have Fw200 : Fld Z h200 a1 c_5 "noNeeds" "[I" (.ref b181) := Fld.same W200 F199
  have K201 : Keep h0 h200 [a1] := K197.wr W200 (Or.inl (List.mem_of_getElem? (i := 0) rfl))
  have Z201 : n0 ≤ h200.size := Nat.le_trans Z197 (Keep.of_wr W200).1
  have N200 := Fr.snoc X200 N176 g1
  refine own_f0 (Q := Q3 Z a0 a1 a2 k2 h0 n0) Bd.notSynchronized hx Bd.returns pre0 X200 go200 (H 52 rfl) e200 (by decide) (by decide) ?_
  have F202 := (((fldS ((((((fldS ((((((((((F_version.ext E4).other W10 (Or.inr (slot_ne (Or.inl (own_w hw 247 rfl)) (Or.inr (own_w hw 21 rfl)) (by decide) (t := .long) (t' := (.array .long)) (by decide) (by decide)))).ext E13).other W23 (Or.inr (slot_ne (Or.inl (own_w hw 247 rfl)) (Or.inr (own_w hw 23 rfl)) (by decide) (t := .long) (t' := (.array .long)) (by decide) (by decide)))).ext E26).other W38 (Or.inr (slot_ne (Or.inl (own_w hw 247 rfl)) (Or.inr (own_w hw 25 rfl)) (by decide) (t := .long) (t' := (.array .long)) (by decide) (by decide)))).ext E45).other W59 (Or.inr (slot_ne (Or.inl (own_w hw 247 rfl)) (Or.inr (own_w hw 36 rfl)) (by decide) (t := .long) (t' := (.array .int)) (by decide) (by decide)))).other W67 (Or.inr (slot_ne (Or.inl (own_w hw 247 rfl)) (Or.inr (own_w hw 38 rfl)) (by decide) (t := .long) (t' := .int) (by decide) (by decide)))).ext E70) (Kn98.2 _ l72)).other W103 (Or.inr (slot_ne (Or.inl (own_w hw 247 rfl)) (Or.inr (own_w hw 120 rfl)) (by decide) (t := .long) (t' := (.object "com/example/slackline/slackline/replay/Steps")) (by decide) (by decide)))).ext E106).keep Kc134 (ninS (Nat.ne_of_lt l108) nin0)).other W139 (Or.inr (slot_ne (Or.inl (own_w hw 247 rfl)) (Or.inr (own_w hw 145 rfl)) (by decide) (t := .long) (t' := (.object "com/example/slackline/slackline/replay/DraftSteps")) (by decide) (by decide)))).ext E142) (Kn171.2 _ l72)).other W176 (Or.inr (slot_ne (Or.inl (own_w hw 247 rfl)) (Or.inr (own_w hw 198 rfl)) (by decide) (t := .long) (t' := (.object "com/example/slackline/slackline/replay/Plan$Walk")) (by decide) (by decide)))).ext E181).other W200 (Or.inr (slot_ne (Or.inl (own_w hw 247 rfl)) (Or.inr (own_w hw 200 rfl)) (by decide) (t := .long) (t' := (.array .int)) (by decide) (by decide)))
  have F203 := (((fldS ((((((fldS ((((((((Fw10.ext E13).other W23 (Or.inr (slot_ne (Or.inr (own_w hw 21 rfl)) (Or.inr (own_w hw 23 rfl)) (by decide) (t := (.array .long)) (t' := (.array .long)) (by decide) (by decide)))).ext E26).other W38 (Or.inr (slot_ne (Or.inr (own_w hw 21 rfl)) (Or.inr (own_w hw 25 rfl)) (by decide) (t := (.array .long)) (t' := (.array .long)) (by decide) (by decide)))).ext E45).other W59 (Or.inr (slot_ne (Or.inr (own_w hw 21 rfl)) (Or.inr (own_w hw 36 rfl)) (by decide) (t := (.array .long)) (t' := (.array .int)) (by decide) (by decide)))).other W67 (Or.inr (slot_ne (Or.inr (own_w hw 21 rfl)) (Or.inr (own_w hw 38 rfl)) (by decide) (t := (.array .long)) (t' := .int) (by decide) (by decide)))).ext E70) (Kn98.2 _ l72)).other W103 (Or.inr (slot_ne (Or.inr (own_w hw 21 rfl)) (Or.inr (own_w hw 120 rfl)) (by decide) (t := (.array .long)) (t' := (.object "com/example/slackline/slackline/replay/Steps")) (by decide) (by decide)))).ext E106).keep Kc134 (ninS (Nat.ne_of_lt l108) nin0)).other W139 (Or.inr (slot_ne (Or.inr (own_w hw 21 rfl)) (Or.inr (own_w hw 145 rfl)) (by decide) (t := (.array .long)) (t' := (.object "com/example/slackline/slackline/replay/DraftSteps")) (by decide) (by decide)))).ext E142) (Kn171.2 _ l72)).other W176 (Or.inr (slot_ne (Or.inr (own_w hw 21 rfl)) (Or.inr (own_w hw 198 rfl)) (by decide) (t := (.array .long)) (t' := (.object "com/example/slackline/slackline/replay/Plan$Walk")) (by decide) (by decide)))).ext E181).other W200 (Or.inr (slot_ne (Or.inr (own_w hw 21 rfl)) (Or.inr (own_w hw 200 rfl)) (by decide) (t := (.array .long)) (t' := (.array .int)) (by decide) (by decide)))
  have F204 := (((fldS ((((((fldS ((((((Fw23.ext E26).other W38 (Or.inr (slot_ne (Or.inr (own_w hw 23 rfl)) (Or.inr (own_w hw 25 rfl)) (by decide) (t := (.array .long)) (t' := (.array .long)) (by decide) (by decide)))).ext E45).other W59 (Or.inr (slot_ne (Or.inr (own_w hw 23 rfl)) (Or.inr (own_w hw 36 rfl)) (by decide) (t := (.array .long)) (t' := (.array .int)) (by decide) (by decide)))).other W67 (Or.inr (slot_ne (Or.inr (own_w hw 23 rfl)) (Or.inr (own_w hw 38 rfl)) (by decide) (t := (.array .long)) (t' := .int) (by decide) (by decide)))).ext E70) (Kn98.2 _ l72)).other W103 (Or.inr (slot_ne (Or.inr (own_w hw 23 rfl)) (Or.inr (own_w hw 120 rfl)) (by decide) (t := (.array .long)) (t' := (.object "com/example/slackline/slackline/replay/Steps")) (by decide) (by decide)))).ext E106).keep Kc134 (ninS (Nat.ne_of_lt l108) nin0)).other W139 (Or.inr (slot_ne (Or.inr (own_w hw 23 rfl)) (Or.inr (own_w hw 145 rfl)) (by decide) (t := (.array .long)) (t' := (.object "com/example/slackline/slackline/replay/DraftSteps")) (by decide) (by decide)))).ext E142) (Kn171.2 _ l72)).other W176 (Or.inr (slot_ne (Or.inr (own_w hw 23 rfl)) (Or.inr (own_w hw 198 rfl)) (by decide) (t := (.array .long)) (t' := (.object "com/example/slackline/slackline/replay/Plan$Walk")) (by decide) (by decide)))).ext E181).other W200 (Or.inr (slot_ne (Or.inr (own_w hw 23 rfl)) (Or.inr (own_w hw 200 rfl)) (by decide) (t := (.array .long)) (t' := (.array .int)) (by decide) (by decide)))
  have F205 := (((fldS F167 (Kn171.2 _ l72)).other W176 (Or.inr (slot_ne (Or.inr (own_w hw 120 rfl)) (Or.inr (own_w hw 198 rfl)) (by decide) (t := (.object "com/example/slackline/slackline/replay/Steps")) (t' := (.object "com/example/slackline/slackline/replay/Plan$Walk")) (by decide) (by decide)))).ext E181).other W200 (Or.inr (slot_ne (Or.inr (own_w hw 120 rfl)) (Or.inr (own_w hw 200 rfl)) (by decide) (t := (.object "com/example/slackline/slackline/replay/Steps")) (t' := (.array .int)) (by decide) (by decide)))
  have F206 := (F186.ext E181).other W200 (Ne.symm (Nat.ne_of_lt l5))
  have F207 := (F188.ext E181).other W200 (Ne.symm (Nat.ne_of_lt l15))
  have M208_0 : h176.size ≤ h176.size := Nat.le_refl _
  have O208_0 : OUT b70 h176.size h176 h176 := OUT.refl _ _ _
  have O208_1 : OUT b70 h176.size h176 h181 := O208_0.ext E181 M208_0
  have M208_1 : h176.size ≤ h181.size := Nat.le_trans M208_0 E181.1
  have O208_2 : OUT b70 h176.size h176 h200 := O208_1.wr W200 (Or.inl l72)
  have M208_2 : h176.size ≤ h200.size := Nat.le_trans M208_1 (Keep.of_wr W200).1
  have F209 := F195.same M208_2 O208_2
  exact ⟨b4, b13, k4, k13, b70, rfl, N200, K201, sz_b4, sz_b13, sz_b70, F202, F203, F204, F205, F206, F207, F209, l72, l76, l78, (Nat.ne_of_lt l19)⟩

theorem own_sh {x y fr to : Int64} (h : ¬ f29 x y fr to = 0) : ¬ y < fr ∧ ¬ to < x := by
  unfold f29 at h
  refine ⟨fun q => h (if_pos q), fun q => h ?_⟩
  by_cases u : y < fr
  · exact if_pos u
  · rw [if_neg u, if_pos q]
theorem own_sh0 {x y fr to : Int64} (h : f29 x y fr to = 0) : y < fr ∨ to < x := by
  unfold f29 at h
  by_cases u : y < fr
  · exact Or.inl u
  · by_cases w : to < x
    · exact Or.inr w
    · rw [if_neg u, if_neg w] at h; exact absurd h (by decide)
theorem own_law_yes_0 (fr to x0 x1 x2 y0 y1 y2 : Int64) (h0 : f29 x0 y0 fr to = 0) (h1 : f29 x1 y1 fr to = 0) (h2 : f29 x2 y2 fr to = 0) : f28_0 fr to x0 x1 x2 y0 y1 y2 = 1 := by
  replace h0 := own_sh0 h0
  replace h1 := own_sh0 h1
  replace h2 := own_sh0 h2
  unfold f28_0
  repeat' split
  all_goals first | rfl | (exfalso; rcases h0 with h0 | h0 <;> rcases h1 with h1 | h1 <;> rcases h2 with h2 | h2 <;> contradiction; done)
theorem own_law_no_0_0 (fr to x0 x1 x2 y0 y1 y2 : Int64) (h : ¬ f29 x0 y0 fr to = 0) : f28_0 fr to x0 x1 x2 y0 y1 y2 = 0 := by
  obtain ⟨h1, h2⟩ := own_sh h
  unfold f28_0
  repeat' split
  all_goals first | rfl | (exfalso; contradiction)
theorem own_law_no_0_1 (fr to x0 x1 x2 y0 y1 y2 : Int64) (h : ¬ f29 x1 y1 fr to = 0) : f28_0 fr to x0 x1 x2 y0 y1 y2 = 0 := by
  obtain ⟨h1, h2⟩ := own_sh h
  unfold f28_0
  repeat' split
  all_goals first | rfl | (exfalso; contradiction)
theorem own_law_no_0_2 (fr to x0 x1 x2 y0 y1 y2 : Int64) (h : ¬ f29 x2 y2 fr to = 0) : f28_0 fr to x0 x1 x2 y0 y1 y2 = 0 := by
  obtain ⟨h1, h2⟩ := own_sh h
  unfold f28_0
  repeat' split
  all_goals first | rfl | (exfalso; contradiction)
theorem own_law_yes_1 (fr to x0 x1 x2 y0 y1 y2 : Int64) (h1 : f29 x1 y1 fr to = 0) (h2 : f29 x2 y2 fr to = 0) : f28_1 fr to x0 x1 x2 y0 y1 y2 = 1 := by
  replace h1 := own_sh0 h1
  replace h2 := own_sh0 h2
  unfold f28_1
  repeat' split
  all_goals first | rfl | (exfalso; rcases h1 with h1 | h1 <;> rcases h2 with h2 | h2 <;> contradiction; done)
theorem own_law_no_1_1 (fr to x0 x1 x2 y0 y1 y2 : Int64) (h : ¬ f29 x1 y1 fr to = 0) : f28_1 fr to x0 x1 x2 y0 y1 y2 = 0 := by
  obtain ⟨h1, h2⟩ := own_sh h
  unfold f28_1
  repeat' split
  all_goals first | rfl | (exfalso; contradiction)
theorem own_law_no_1_2 (fr to x0 x1 x2 y0 y1 y2 : Int64) (h : ¬ f29 x2 y2 fr to = 0) : f28_1 fr to x0 x1 x2 y0 y1 y2 = 0 := by
  obtain ⟨h1, h2⟩ := own_sh h
  unfold f28_1
  repeat' split
  all_goals first | rfl | (exfalso; contradiction)
theorem own_law_yes_2 (fr to x0 x1 x2 y0 y1 y2 : Int64) (h2 : f29 x2 y2 fr to = 0) : f28_2 fr to x0 x1 x2 y0 y1 y2 = 1 := by
  replace h2 := own_sh0 h2
  unfold f28_2
  repeat' split
  all_goals first | rfl | (exfalso; rcases h2 with h2 | h2 <;> contradiction; done)
theorem own_law_no_2_2 (fr to x0 x1 x2 y0 y1 y2 : Int64) (h : ¬ f29 x2 y2 fr to = 0) : f28_2 fr to x0 x1 x2 y0 y1 y2 = 0 := by
  obtain ⟨h1, h2⟩ := own_sh h
  unfold f28_2
  repeat' split
  all_goals first | rfl | (exfalso; contradiction)
theorem own_law_yes_3 (fr to x0 x1 x2 y0 y1 y2 : Int64) : f28_3 fr to x0 x1 x2 y0 y1 y2 = 1 := rfl
theorem own_4 (p : Int32) : (p &&& 3) = 0 ∨ (p &&& 3) = 1 ∨ (p &&& 3) = 2 ∨ (p &&& 3) = 3 := by
  have h : (p &&& 3).toInt = p.toInt % 4 := c_mask p 3 2 (by decide) (by decide)
  have h2 : ((p &&& 3)).toInt = 0 ∨ ((p &&& 3)).toInt = 1 ∨ ((p &&& 3)).toInt = 2 ∨ ((p &&& 3)).toInt = 3 := by omega
  rcases h2 with h2 | h2 | h2 | h2
  · exact Or.inl (Int32.toInt_inj.mp h2)
  · exact Or.inr (Or.inl (Int32.toInt_inj.mp h2))
  · exact Or.inr (Or.inr (Or.inl (Int32.toInt_inj.mp h2)))
  · exact Or.inr (Or.inr (Or.inr (Int32.toInt_inj.mp h2)))

theorem own_4l {p : Int32} {v : Int64} (h : v = (p &&& 3).toInt64) : v = 0 ∨ v = 1 ∨ v = 2 ∨ v = 3 := by
  rcases own_4 p with q | q | q | q <;> rw [q] at h
  · exact Or.inl h
  · exact Or.inr (Or.inl h)
  · exact Or.inr (Or.inr (Or.inl h))
  · exact Or.inr (Or.inr (Or.inr h))

theorem own_t0 {P : Prop} [Decidable P] (h : P) : (if P then (0 : Int32) else (1 : Int32)) = 0 := if_pos h
theorem own_t1 {P : Prop} [Decidable P] (h : ¬ P) : ¬ (if P then (0 : Int32) else (1 : Int32)) = 0 := by rw [if_neg h]; decide

theorem own_law_0 (fr to x0 x1 x2 y0 y1 y2 : Int64) : (f28_0 fr to x0 x1 x2 y0 y1 y2) = (if (if (f29 x0 y0 fr to) = 0 then (0 : Int32) else (1 : Int32)) = 0 then (if (if (f29 x1 y1 fr to) = 0 then (0 : Int32) else (1 : Int32)) = 0 then (if (if (f29 x2 y2 fr to) = 0 then (0 : Int32) else (1 : Int32)) = 0 then (1 : Int32) else (0 : Int32)) else (0 : Int32)) else (0 : Int32)) := by
  by_cases h0 : f29 x0 y0 fr to = 0
  case neg => rw [if_neg (own_t1 h0)]; exact own_law_no_0_0 _ _ _ _ _ _ _ _ h0
  rw [if_pos (own_t0 h0)]
  by_cases h1 : f29 x1 y1 fr to = 0
  case neg => rw [if_neg (own_t1 h1)]; exact own_law_no_0_1 _ _ _ _ _ _ _ _ h1
  rw [if_pos (own_t0 h1)]
  by_cases h2 : f29 x2 y2 fr to = 0
  case neg => rw [if_neg (own_t1 h2)]; exact own_law_no_0_2 _ _ _ _ _ _ _ _ h2
  rw [if_pos (own_t0 h2)]
  exact own_law_yes_0 _ _ _ _ _ _ _ _ h0 h1 h2

theorem own_law_1 (fr to x0 x1 x2 y0 y1 y2 : Int64) : (f28_1 fr to x0 x1 x2 y0 y1 y2) = (if (if (f29 x1 y1 fr to) = 0 then (0 : Int32) else (1 : Int32)) = 0 then (if (if (f29 x2 y2 fr to) = 0 then (0 : Int32) else (1 : Int32)) = 0 then (1 : Int32) else (0 : Int32)) else (0 : Int32)) := by
  by_cases h1 : f29 x1 y1 fr to = 0
  case neg => rw [if_neg (own_t1 h1)]; exact own_law_no_1_1 _ _ _ _ _ _ _ _ h1
  rw [if_pos (own_t0 h1)]
  by_cases h2 : f29 x2 y2 fr to = 0
  case neg => rw [if_neg (own_t1 h2)]; exact own_law_no_1_2 _ _ _ _ _ _ _ _ h2
  rw [if_pos (own_t0 h2)]
  exact own_law_yes_1 _ _ _ _ _ _ _ _ h1 h2

theorem own_law_2 (fr to x0 x1 x2 y0 y1 y2 : Int64) : (f28_2 fr to x0 x1 x2 y0 y1 y2) = (if (if (f29 x2 y2 fr to) = 0 then (0 : Int32) else (1 : Int32)) = 0 then (1 : Int32) else (0 : Int32)) := by
  by_cases h2 : f29 x2 y2 fr to = 0
  case neg => rw [if_neg (own_t1 h2)]; exact own_law_no_2_2 _ _ _ _ _ _ _ _ h2
  rw [if_pos (own_t0 h2)]
  exact own_law_yes_2 _ _ _ _ _ _ _ _ h2

theorem own_law_3 (fr to x0 x1 x2 y0 y1 y2 : Int64) : (f28_3 fr to x0 x1 x2 y0 y1 y2) = 1 := by
  exact own_law_yes_3 _ _ _ _ _ _ _ _ 

theorem pn_0 : plainName "com/example/slackline/slackline/replay/PlanUntouchedSincePinLaw" = true := by first | (simp [plainName, overriddenIn]; done) | decide +kernel
theorem pd0_0 : parseMethodDescriptor "(JJ)J" = some ⟨[.long, .long], some .long⟩ := by decide +kernel
theorem pd0_1 : parseMethodDescriptor "([II)V" = some ⟨[(.array .int), .int], none⟩ := by decide +kernel
theorem pd0_2 : parseMethodDescriptor "(JJ[I)V" = some ⟨[.long, .long, (.array .int)], none⟩ := by decide +kernel
theorem pd0_3 : parseMethodDescriptor "(JJJ)Z" = some ⟨[.long, .long, .long], some .boolean⟩ := by decide +kernel
theorem pd0_4 : parseMethodDescriptor "(JJJJ)Z" = some ⟨[.long, .long, .long, .long], some .boolean⟩ := by decide +kernel
theorem pd0_5 : parseMethodDescriptor "()J" = some ⟨[], some .long⟩ := by decide +kernel
theorem ef_0 (m : MethodId) (x0 : Int64) (x1 : Int64) (x2 : Int64) (x3 : Int64) (x4 : Int64) (x5 : Int32) : entryFrame m #[(.long x0), (.long x1), (.long x2), (.long x3), (.long x4), (.int x5)] maxLocals = mkF m 0 #[vj x0, .second, vj x1, .second, vj x2, .second, vj x3, .second, vj x4, .second, vi x5, .unset, .unset, .unset, .unset, .unset, .unset, .unset, .unset, .unset, .unset, .unset, .unset, .unset, .unset, .unset, .unset, .unset, .unset, .unset, .unset, .unset, .unset, .unset, .unset, .unset, .unset, .unset, .unset, .unset, .unset] [] := by first | (simp [entryFrame, mkF, argsToLocals, Value.category, maxLocals]; done) | rfl
def Q0 (Z : State) (a0 : Array Value) (q1 : Int64) (q2 : Int64) (q3 : Int64) (q4 : Int64) (q5 : Int64) (p6 : Int32) (h0 : Heap) (n0 : Nat) (v : Option Value) (h : Heap) (L : List Loc) : Prop := v = some (.int 1) ∧ Fr n0 L
set_option maxRecDepth 65536 in
set_option maxHeartbeats 40000000 in
theorem rm0 (l : Launch) (Z : State) (a0 : Array Value) (hw : ∀ d ∈ tables_1, d.before a0 Z = true) (ws : List Jvm.Cond) (q1 : Int64) (q2 : Int64) (q3 : Int64) (q4 : Int64) (q5 : Int64) (p6 : Int32) (h0 : Heap) (n0 : Nat) (Z0 : n0 ≤ h0.size) :
    MetFree l x (head1 (Jvm.Cond.code x code maxLocals ret :: ws) room_1) (fun a U => a = #[(.long q1), (.long q2), (.long q3), (.long q4), (.long q5), (.int p6)] ∧ Z.Warmed39 U.vm ∧ U.heap = h0) (fun _ _ _ _ _ => True) (fun _ U o U' => ∃ v L, o = .returned v ∧ Q0 Z a0 q1 q2 q3 q4 q5 p6 h0 n0 v U'.heap L ∧ FrameEnd U o U' L room_1.cells room_1.slots) := by
  refine MetFree.of_bodySF (plainFor_of_name pn_0) hisR ?_
  intro p e s m args below meth c s₁ Bd hml0 hP hK
  obtain ⟨rfl, hZ, hh⟩ := hP
  have hx := Bd.exec
  have hby := Bd.bytes
  have hml : c.maxLocals = 41 := hml0
  have hown : s.vm.findClass "com/example/slackline/slackline/replay/PlanUntouchedSincePinLaw" = some m.cls := findClass_of_methodNamed Bd.named
  have hnm := (name_of_methodNamed Bd.named Bd.method).1
  have X0 : Stand p l e room_1 s m #[(.long q1), (.long q2), (.long q3), (.long q4), (.long q5), (.int p6)] below meth c s₁ [] 0 0 := Stand.of_body Bd
  have e0 : s₁.heap = h0 := by rw [← hh, Bd.state]; rfl
  have N0 := Fr.nil n0
  have H : ∀ {i : Nat} {r : _}, decode code i = r → decode c.code i = r := fun d => hb hby d
  obtain ⟨F0, hF0⟩ : ∃ F : JFrame, F = entryFrame m #[(.long q1), (.long q2), (.long q3), (.long q4), (.long q5), (.int p6)] maxLocals := ⟨_, rfl⟩
  have pre0 : ∀ t, Steps p.tables e below (s₁.setTop F0) t → Steps p.tables e below (s₁.setTop (entryFrame m #[(.long q1), (.long q2), (.long q3), (.long q4), (.long q5), (.int p6)] maxLocals)) t := fun t k => hF0 ▸ k
  have go0 : Go p e below s₁ F0 s₁ (mkF m 0 #[vj q1, .second, vj q2, .second, vj q3, .second, vj q4, .second, vj q5, .second, vi p6, .unset, .unset, .unset, .unset, .unset, .unset, .unset, .unset, .unset, .unset, .unset, .unset, .unset, .unset, .unset, .unset, .unset, .unset, .unset, .unset, .unset, .unset, .unset, .unset, .unset, .unset, .unset, .unset, .unset, .unset] []) := fun t k => castTop (hF0.trans (ef_0 m q1 q2 q3 q4 q5 p6)) k
  have go1 := (s_lstore (s_land (s_ldc2 (s_lloadN go0 X0 hx (H at_0) rfl) X0 hx hown (mvT hZ (own_w hw 0 rfl)) (H at_1)) X0 hx (H at_4)) X0 hx (H at_5) (L' := #[vj q1, .second, vj q2, .second, vj q3, .second, vj q4, .second, vj q5, .second, vi p6, vj (q1 &&& 4294967295), .second, .unset, .unset, .unset, .unset, .unset, .unset, .unset, .unset, .unset, .unset, .unset, .unset, .unset, .unset, .unset, .unset, .unset, .unset, .unset, .unset, .unset, .unset, .unset, .unset, .unset, .unset, .unset, .unset]) rfl)
  obtain ⟨w1, h_w1⟩ : ∃ z : Int64, z = (q1 &&& 4294967295) := ⟨_, rfl⟩
  have go2 : Go p e below s₁ F0 s₁ (mkF m 7 #[vj q1, .second, vj q2, .second, vj q3, .second, vj q4, .second, vj q5, .second, vi p6, vj w1, .second, .unset, .unset, .unset, .unset, .unset, .unset, .unset, .unset, .unset, .unset, .unset, .unset, .unset, .unset, .unset, .unset, .unset, .unset, .unset, .unset, .unset, .unset, .unset, .unset, .unset, .unset, .unset, .unset] []) := by rw [h_w1]; exact go1
  have go3 := (s_lstore (s_ladd (s_lushr (s_bipush (s_lloadN (s_lload go2 X0 hx (H at_7) rfl) X0 hx (H at_9) rfl) X0 hx (H at_10) (v := 32) rfl) X0 hx (H at_12)) X0 hx (H at_13)) X0 hx (H at_14) (L' := #[vj q1, .second, vj q2, .second, vj q3, .second, vj q4, .second, vj q5, .second, vi p6, vj w1, .second, vj (w1 + ((q1.toUInt64 >>> ((32 : Int32) &&& 0x3f).toInt64.toUInt64).toInt64)), .second, .unset, .unset, .unset, .unset, .unset, .unset, .unset, .unset, .unset, .unset, .unset, .unset, .unset, .unset, .unset, .unset, .unset, .unset, .unset, .unset, .unset, .unset, .unset, .unset, .unset, .unset]) rfl)
  obtain ⟨z1, h_z1⟩ : ∃ z : Int64, z = (w1 + ((q1.toUInt64 >>> ((32 : Int32) &&& 0x3f).toInt64.toUInt64).toInt64)) := ⟨_, rfl⟩
  have go4 : Go p e below s₁ F0 s₁ (mkF m 16 #[vj q1, .second, vj q2, .second, vj q3, .second, vj q4, .second, vj q5, .second, vi p6, vj w1, .second, vj z1, .second, .unset, .unset, .unset, .unset, .unset, .unset, .unset, .unset, .unset, .unset, .unset, .unset, .unset, .unset, .unset, .unset, .unset, .unset, .unset, .unset, .unset, .unset, .unset, .unset, .unset, .unset] []) := by rw [h_z1]; exact go3
  have go5 := (s_lstore (s_land (s_ldc2 (s_lloadN go4 X0 hx (H at_16) rfl) X0 hx hown (mvT hZ (own_w hw 0 rfl)) (H at_17)) X0 hx (H at_20)) X0 hx (H at_21) (L' := #[vj q1, .second, vj q2, .second, vj q3, .second, vj q4, .second, vj q5, .second, vi p6, vj w1, .second, vj z1, .second, vj (q2 &&& 4294967295), .second, .unset, .unset, .unset, .unset, .unset, .unset, .unset, .unset, .unset, .unset, .unset, .unset, .unset, .unset, .unset, .unset, .unset, .unset, .unset, .unset, .unset, .unset, .unset, .unset]) rfl)
  obtain ⟨w2, h_w2⟩ : ∃ z : Int64, z = (q2 &&& 4294967295) := ⟨_, rfl⟩
  have go6 : Go p e below s₁ F0 s₁ (mkF m 23 #[vj q1, .second, vj q2, .second, vj q3, .second, vj q4, .second, vj q5, .second, vi p6, vj w1, .second, vj z1, .second, vj w2, .second, .unset, .unset, .unset, .unset, .unset, .unset, .unset, .unset, .unset, .unset, .unset, .unset, .unset, .unset, .unset, .unset, .unset, .unset, .unset, .unset, .unset, .unset, .unset, .unset] []) := by rw [h_w2]; exact go5
  have go7 := (s_lstore (s_ladd (s_lushr (s_bipush (s_lloadN (s_lload go6 X0 hx (H at_23) rfl) X0 hx (H at_25) rfl) X0 hx (H at_26) (v := 32) rfl) X0 hx (H at_28)) X0 hx (H at_29)) X0 hx (H at_30) (L' := #[vj q1, .second, vj q2, .second, vj q3, .second, vj q4, .second, vj q5, .second, vi p6, vj w1, .second, vj z1, .second, vj w2, .second, vj (w2 + ((q2.toUInt64 >>> ((32 : Int32) &&& 0x3f).toInt64.toUInt64).toInt64)), .second, .unset, .unset, .unset, .unset, .unset, .unset, .unset, .unset, .unset, .unset, .unset, .unset, .unset, .unset, .unset, .unset, .unset, .unset, .unset, .unset, .unset, .unset]) rfl)
  obtain ⟨z2, h_z2⟩ : ∃ z : Int64, z = (w2 + ((q2.toUInt64 >>> ((32 : Int32) &&& 0x3f).toInt64.toUInt64).toInt64)) := ⟨_, rfl⟩
  have go8 : Go p e below s₁ F0 s₁ (mkF m 32 #[vj q1, .second, vj q2, .second, vj q3, .second, vj q4, .second, vj q5, .second, vi p6, vj w1, .second, vj z1, .second, vj w2, .second, vj z2, .second, .unset, .unset, .unset, .unset, .unset, .unset, .unset, .unset, .unset, .unset, .unset, .unset, .unset, .unset, .unset, .unset, .unset, .unset, .unset, .unset, .unset, .unset] []) := by rw [h_z2]; exact go7
  have go9 := (s_lstore (s_land (s_ldc2 (s_lload go8 X0 hx (H at_32) rfl) X0 hx hown (mvT hZ (own_w hw 0 rfl)) (H at_34)) X0 hx (H at_37)) X0 hx (H at_38) (L' := #[vj q1, .second, vj q2, .second, vj q3, .second, vj q4, .second, vj q5, .second, vi p6, vj w1, .second, vj z1, .second, vj w2, .second, vj z2, .second, vj (q3 &&& 4294967295), .second, .unset, .unset, .unset, .unset, .unset, .unset, .unset, .unset, .unset, .unset, .unset, .unset, .unset, .unset, .unset, .unset, .unset, .unset, .unset, .unset]) rfl)
  obtain ⟨w3, h_w3⟩ : ∃ z : Int64, z = (q3 &&& 4294967295) := ⟨_, rfl⟩
  have go10 : Go p e below s₁ F0 s₁ (mkF m 40 #[vj q1, .second, vj q2, .second, vj q3, .second, vj q4, .second, vj q5, .second, vi p6, vj w1, .second, vj z1, .second, vj w2, .second, vj z2, .second, vj w3, .second, .unset, .unset, .unset, .unset, .unset, .unset, .unset, .unset, .unset, .unset, .unset, .unset, .unset, .unset, .unset, .unset, .unset, .unset, .unset, .unset] []) := by rw [h_w3]; exact go9
  have go11 := (s_lstore (s_ladd (s_lushr (s_bipush (s_lload (s_lload go10 X0 hx (H at_40) rfl) X0 hx (H at_42) rfl) X0 hx (H at_44) (v := 32) rfl) X0 hx (H at_46)) X0 hx (H at_47)) X0 hx (H at_48) (L' := #[vj q1, .second, vj q2, .second, vj q3, .second, vj q4, .second, vj q5, .second, vi p6, vj w1, .second, vj z1, .second, vj w2, .second, vj z2, .second, vj w3, .second, vj (w3 + ((q3.toUInt64 >>> ((32 : Int32) &&& 0x3f).toInt64.toUInt64).toInt64)), .second, .unset, .unset, .unset, .unset, .unset, .unset, .unset, .unset, .unset, .unset, .unset, .unset, .unset, .unset, .unset, .unset, .unset, .unset]) rfl)
  obtain ⟨z3, h_z3⟩ : ∃ z : Int64, z = (w3 + ((q3.toUInt64 >>> ((32 : Int32) &&& 0x3f).toInt64.toUInt64).toInt64)) := ⟨_, rfl⟩
  have go12 : Go p e below s₁ F0 s₁ (mkF m 50 #[vj q1, .second, vj q2, .second, vj q3, .second, vj q4, .second, vj q5, .second, vi p6, vj w1, .second, vj z1, .second, vj w2, .second, vj z2, .second, vj w3, .second, vj z3, .second, .unset, .unset, .unset, .unset, .unset, .unset, .unset, .unset, .unset, .unset, .unset, .unset, .unset, .unset, .unset, .unset, .unset, .unset] []) := by rw [h_z3]; exact go11
  have go13 := (s_lload (s_lload (s_lstore (s_land (s_ldc2 (s_lload (s_lstore (s_land (s_ldc2 (s_lload go12 X0 hx (H at_50) rfl) X0 hx hown (mvT hZ (own_w hw 1 rfl)) (H at_52)) X0 hx (H at_55)) X0 hx (H at_56) (L' := #[vj q1, .second, vj q2, .second, vj q3, .second, vj q4, .second, vj q5, .second, vi p6, vj w1, .second, vj z1, .second, vj w2, .second, vj z2, .second, vj w3, .second, vj z3, .second, vj (q4 &&& 9223372036854775807), .second, .unset, .unset, .unset, .unset, .unset, .unset, .unset, .unset, .unset, .unset, .unset, .unset, .unset, .unset, .unset, .unset]) rfl) X0 hx (H at_58) rfl) X0 hx hown (mvT hZ (own_w hw 1 rfl)) (H at_60)) X0 hx (H at_63)) X0 hx (H at_64) (L' := #[vj q1, .second, vj q2, .second, vj q3, .second, vj q4, .second, vj q5, .second, vi p6, vj w1, .second, vj z1, .second, vj w2, .second, vj z2, .second, vj w3, .second, vj z3, .second, vj (q4 &&& 9223372036854775807), .second, vj (q5 &&& 9223372036854775807), .second, .unset, .unset, .unset, .unset, .unset, .unset, .unset, .unset, .unset, .unset, .unset, .unset, .unset, .unset]) rfl) X0 hx (H at_66) rfl) X0 hx (H at_68) rfl)
  obtain ⟨_, _, ⟨T14, L14, k14, n14⟩, -, X14, ⟨Lc14, hQ14, l14, y14, z14⟩, g14⟩ := c_s go13 (Jvm.LawKit.callS X0 hx (y := y_0) hown (mvT hZ (own_w hw 2 rfl)) (mvT hZ (own_w hw 3 rfl)) (mvT hZ (own_w hw 4 rfl)) (mvT hZ (own_w hw 5 rfl)) (by decide) (backOf (W := 0) (rm1 l Z a0 hw [] (q4 &&& 9223372036854775807) (q5 &&& 9223372036854775807) h0 n0 Z0 ) hZ (own_w hw 5 rfl) (own_w hw 4 rfl) (by decide) (by decide)) (g := mkF m _ _ _) rfl (by rw [hml]; rfl) (argsL := [(.long (q4 &&& 9223372036854775807)), (.long (q5 &&& 9223372036854775807))]) (rest := []) (lenOf pd0_0 rfl) rfl (by show 2 * 0 + _ ≤ _; exact Nat.le_of_eq rfl) (H at_70) (fun _ _ => ⟨rfl, e0, (by decide : 0 + 0 ≤ _), (by decide : 0 + 0 ≤ _)⟩))
  dsimp only [Pt.U, Pt.locs, Pt.cells, Pt.slots] at X14 l14 y14 z14 g14 hQ14
  subst l14 y14 z14
  obtain ⟨rfl, Nq14, eh14⟩ := hQ14
  have N14 := Fr.app N0 Nq14
  have go15 := cr g14
  have go16 := (s_lstore go15 X14 hx (H at_73) (L' := #[vj q1, .second, vj q2, .second, vj q3, .second, vj q4, .second, vj q5, .second, vi p6, vj w1, .second, vj z1, .second, vj w2, .second, vj z2, .second, vj w3, .second, vj z3, .second, vj (q4 &&& 9223372036854775807), .second, vj (q5 &&& 9223372036854775807), .second, vj (f1 (q4 &&& 9223372036854775807) (q5 &&& 9223372036854775807)), .second, .unset, .unset, .unset, .unset, .unset, .unset, .unset, .unset, .unset, .unset, .unset, .unset]) rfl)
  obtain ⟨fr, h_fr⟩ : ∃ z : Int64, z = (f1 (q4 &&& 9223372036854775807) (q5 &&& 9223372036854775807)) := ⟨_, rfl⟩
  have go17 : Go p e below s₁ F0 T14 (mkF m 75 #[vj q1, .second, vj q2, .second, vj q3, .second, vj q4, .second, vj q5, .second, vi p6, vj w1, .second, vj z1, .second, vj w2, .second, vj z2, .second, vj w3, .second, vj z3, .second, vj (q4 &&& 9223372036854775807), .second, vj (q5 &&& 9223372036854775807), .second, vj fr, .second, .unset, .unset, .unset, .unset, .unset, .unset, .unset, .unset, .unset, .unset, .unset, .unset] []) := by rw [h_fr]; exact go16
  have go18 := (s_lload (s_lload go17 X14 hx (H at_75) rfl) X14 hx (H at_77) rfl)
  obtain ⟨_, _, ⟨T19, L19, k19, n19⟩, -, X19, ⟨Lc19, hQ19, l19, y19, z19⟩, g19⟩ := c_s go18 (Jvm.LawKit.callS X14 hx (y := y_1) hown (mvT hZ (own_w hw 6 rfl)) (mvT hZ (own_w hw 7 rfl)) (mvT hZ (own_w hw 4 rfl)) (mvT hZ (own_w hw 8 rfl)) (by decide) (backOf (W := 0) (rm2 l Z a0 hw [] (q4 &&& 9223372036854775807) (q5 &&& 9223372036854775807) h0 n0 Z0 ) hZ (own_w hw 8 rfl) (own_w hw 4 rfl) (by decide) (by decide)) (g := mkF m _ _ _) rfl (by rw [hml]; rfl) (argsL := [(.long (q4 &&& 9223372036854775807)), (.long (q5 &&& 9223372036854775807))]) (rest := []) (lenOf pd0_0 rfl) rfl (by show 2 * 0 + _ ≤ _; exact Nat.le_of_eq rfl) (H at_79) (fun _ _ => ⟨rfl, eh14, (by decide : 0 + 0 ≤ _), (by decide : 0 + 0 ≤ _)⟩))
  dsimp only [Pt.U, Pt.locs, Pt.cells, Pt.slots] at X19 l19 y19 z19 g19 hQ19
  subst l19 y19 z19
  obtain ⟨rfl, Nq19, eh19⟩ := hQ19
  have N19 := Fr.app N14 Nq19
  have go20 := cr g19
  have go21 := (s_lstore go20 X19 hx (H at_82) (L' := #[vj q1, .second, vj q2, .second, vj q3, .second, vj q4, .second, vj q5, .second, vi p6, vj w1, .second, vj z1, .second, vj w2, .second, vj z2, .second, vj w3, .second, vj z3, .second, vj (q4 &&& 9223372036854775807), .second, vj (q5 &&& 9223372036854775807), .second, vj fr, .second, vj (f2 (q4 &&& 9223372036854775807) (q5 &&& 9223372036854775807)), .second, .unset, .unset, .unset, .unset, .unset, .unset, .unset, .unset, .unset, .unset]) rfl)
  obtain ⟨to, h_to⟩ : ∃ z : Int64, z = (f2 (q4 &&& 9223372036854775807) (q5 &&& 9223372036854775807)) := ⟨_, rfl⟩
  have go22 : Go p e below s₁ F0 T19 (mkF m 84 #[vj q1, .second, vj q2, .second, vj q3, .second, vj q4, .second, vj q5, .second, vi p6, vj w1, .second, vj z1, .second, vj w2, .second, vj z2, .second, vj w3, .second, vj z3, .second, vj (q4 &&& 9223372036854775807), .second, vj (q5 &&& 9223372036854775807), .second, vj fr, .second, vj to, .second, .unset, .unset, .unset, .unset, .unset, .unset, .unset, .unset, .unset, .unset] []) := by rw [h_to]; exact go21
  have go23 := (s_lstore (s_i2l (s_iand (s_iconst (s_iload go22 X19 hx (H at_84) rfl) X19 hx (H at_86) (v := 3) rfl) X19 hx (H at_87)) X19 hx (H at_88)) X19 hx (H at_89) (L' := #[vj q1, .second, vj q2, .second, vj q3, .second, vj q4, .second, vj q5, .second, vi p6, vj w1, .second, vj z1, .second, vj w2, .second, vj z2, .second, vj w3, .second, vj z3, .second, vj (q4 &&& 9223372036854775807), .second, vj (q5 &&& 9223372036854775807), .second, vj fr, .second, vj to, .second, vj ((p6 &&& 3).toInt64), .second, .unset, .unset, .unset, .unset, .unset, .unset, .unset, .unset]) rfl)
  obtain ⟨v31, h_v31⟩ : ∃ z : Int64, z = ((p6 &&& 3).toInt64) := ⟨_, rfl⟩
  have go24 : Go p e below s₁ F0 T19 (mkF m 91 #[vj q1, .second, vj q2, .second, vj q3, .second, vj q4, .second, vj q5, .second, vi p6, vj w1, .second, vj z1, .second, vj w2, .second, vj z2, .second, vj w3, .second, vj z3, .second, vj (q4 &&& 9223372036854775807), .second, vj (q5 &&& 9223372036854775807), .second, vj fr, .second, vj to, .second, vj v31, .second, .unset, .unset, .unset, .unset, .unset, .unset, .unset, .unset] []) := by rw [h_v31]; exact go23
  have go25 := (s_iconst go24 X19 hx (H at_91) (v := 1) rfl)
  obtain ⟨T26, h26, k26, X26, e26, E26, A26, Q26, go26⟩ := w_3b go25 (newPE X19 hx hZ (own_w hw 9 rfl) eh19 (g := mkF m _ _ _) rfl (H at_92) rfl (by decide) (cap := 1) (by decide) (by decide) (by decide) (by decide) (ad := "[I") (by decide))
  obtain ⟨b26, gz26⟩ : ∃ z, z = h0.size := ⟨_, rfl⟩
  rw [← gz26] at A26 Q26 go26
  have g_b26 := Nat.le_trans Z0 (Nat.le_of_eq gz26.symm)
  have Z27 : n0 ≤ h26.size := Nat.le_trans Z0 E26.1
  have V26 : Arv Z h26 b26 k26 .int (1 : Int32) [(.int 0)] (.int 0) := (Arv.new A26 (by decide)).pad (pad_rep [] (.int 0) 1)
  have go28 := (s_iconst (s_iconst (s_dup go26 X26 hx (H at_94) rfl) X26 hx (H at_95) (v := 0) rfl) X26 hx (H at_96) (v := 1) rfl)
  obtain ⟨cl29, Ar29, q29, Sz29, Nn29, Hs29, G29⟩ := id V26
  have hin29 : ¬ ((0 : Int32) < 0 ∨ cl29.slots.size ≤ ((0 : Int32)).toNatClampNeg) := inb_of Sz29 ⟨by decide, by decide⟩
  obtain ⟨T29, h29, X29, e29, W29, go29⟩ := w_2 go28 (stI X26 hx hZ e26 Ar29 (j := (0 : Int32)) hin29 (g := mkF m _ _ _) rfl rfl (H at_97))
  have V29 : Arv Z h29 b26 k26 .int (1 : Int32) [(.int 1)] (.int 0) := Arv.set Ar29 q29 Sz29 Nn29 Hs29 G29 rfl W29 0 rfl (Nat.le_of_ble_eq_true rfl)
  have Z30 : n0 ≤ h29.size := Nat.le_trans Z27 (Keep.of_wr W29).1
  have N29 := Fr.snoc X29 N19 g_b26
  have go31 := (s_iconst (s_astore go29 X29 hx (H at_98) rfl (L' := #[vj q1, .second, vj q2, .second, vj q3, .second, vj q4, .second, vj q5, .second, vi p6, vj w1, .second, vj z1, .second, vj w2, .second, vj z2, .second, vj w3, .second, vj z3, .second, vj (q4 &&& 9223372036854775807), .second, vj (q5 &&& 9223372036854775807), .second, vj fr, .second, vj to, .second, vj v31, .second, vr b26, .unset, .unset, .unset, .unset, .unset, .unset, .unset]) rfl) X29 hx (H at_100) (v := 1) rfl)
  obtain ⟨T32, h32, k32, X32, e32, E32, A32, go32⟩ := w_3 go31 (newP X29 hx hZ (own_w hw 9 rfl) e29 (g := mkF m _ _ _) rfl (H at_101) rfl (by decide) (cap := 1) (by decide) (by decide) (by decide) (by decide))
  obtain ⟨b32, gz32⟩ : ∃ z, z = h29.size := ⟨_, rfl⟩
  rw [← gz32] at A32 go32
  have l33 := Nat.lt_of_lt_of_le V29.lt (Nat.le_of_eq gz32.symm)
  have g_b32 := Nat.le_trans Z30 (Nat.le_of_eq gz32.symm)
  have Z34 : n0 ≤ h32.size := Nat.le_trans Z30 E32.1
  have V32 : Arv Z h32 b32 k32 .int (1 : Int32) [(.int 0)] (.int 0) := (Arv.new A32 (by decide)).pad (pad_rep [] (.int 0) 1)
  have go35 := (s_iconst (s_iconst (s_dup go32 X32 hx (H at_103) rfl) X32 hx (H at_104) (v := 0) rfl) X32 hx (H at_105) (v := 1) rfl)
  obtain ⟨cl36, Ar36, q36, Sz36, Nn36, Hs36, G36⟩ := id V32
  have hin36 : ¬ ((0 : Int32) < 0 ∨ cl36.slots.size ≤ ((0 : Int32)).toNatClampNeg) := inb_of Sz36 ⟨by decide, by decide⟩
  obtain ⟨T36, h36, X36, e36, W36, go36⟩ := w_2 go35 (stI X32 hx hZ e32 Ar36 (j := (0 : Int32)) hin36 (g := mkF m _ _ _) rfl rfl (H at_106))
  have V36 : Arv Z h36 b32 k32 .int (1 : Int32) [(.int 1)] (.int 0) := Arv.set Ar36 q36 Sz36 Nn36 Hs36 G36 rfl W36 0 rfl (Nat.le_of_ble_eq_true rfl)
  have Z37 : n0 ≤ h36.size := Nat.le_trans Z34 (Keep.of_wr W36).1
  have N36 := Fr.snoc X36 N29 g_b32
  have go38 := (s_astore go36 X36 hx (H at_107) rfl (L' := #[vj q1, .second, vj q2, .second, vj q3, .second, vj q4, .second, vj q5, .second, vi p6, vj w1, .second, vj z1, .second, vj w2, .second, vj z2, .second, vj w3, .second, vj z3, .second, vj (q4 &&& 9223372036854775807), .second, vj (q5 &&& 9223372036854775807), .second, vj fr, .second, vj to, .second, vj v31, .second, vr b26, vr b32, .unset, .unset, .unset, .unset, .unset, .unset]) rfl)
  obtain ⟨T39, h39, X39, e39, E39, A39, D39, -, go39⟩ := w_4 go38 (newO X36 hx hZ hown (own_w hw 10 rfl) (own_w hw 11 rfl) (own_w hw 12 rfl) e36 (g := mkF m _ _ _) rfl (H at_109) (by decide) (by decide))
  obtain ⟨b39, gz39⟩ : ∃ z, z = h36.size := ⟨_, rfl⟩
  rw [← gz39] at A39 D39 go39
  have F40 := (V29.ext E32).other W36 (Nat.ne_of_lt l33)
  have l41 := Nat.lt_of_lt_of_le F40.lt (Nat.le_of_eq gz39.symm)
  have l42 := Nat.lt_of_lt_of_le V36.lt (Nat.le_of_eq gz39.symm)
  have g_b39 := Nat.le_trans Z37 (Nat.le_of_eq gz39.symm)
  have Z43 : n0 ≤ h39.size := Nat.le_trans Z37 E39.1
  have F44 : Fld Z h39 b39 c_5 "touchedFrom" "[J" .null := D39 (Or.inr (own_w hw 21 rfl)) (ty := (.array .long)) (by decide)
  have F45 : Fld Z h39 b39 c_5 "touchedTo" "[J" .null := D39 (Or.inr (own_w hw 23 rfl)) (ty := (.array .long)) (by decide)
  have F46 : Fld Z h39 b39 c_5 "oneStretch" "[J" .null := D39 (Or.inr (own_w hw 25 rfl)) (ty := (.array .long)) (by decide)
  have F47 : Fld Z h39 b39 c_5 "capacity" "[I" .null := D39 (Or.inr (own_w hw 36 rfl)) (ty := (.array .int)) (by decide)
  have F48 : Fld Z h39 b39 c_5 "kinds" "I" (.int 0) := D39 (Or.inr (own_w hw 38 rfl)) (ty := .int) (by decide)
  have F49 : Fld Z h39 b39 c_5 "steps" "Lcom/example/slackline/slackline/replay/Steps;" .null := D39 (Or.inr (own_w hw 120 rfl)) (ty := (.object "com/example/slackline/slackline/replay/Steps")) (by decide)
  have F50 : Fld Z h39 b39 c_5 "noChanges" "Lcom/example/slackline/slackline/replay/DraftSteps;" .null := D39 (Or.inr (own_w hw 145 rfl)) (ty := (.object "com/example/slackline/slackline/replay/DraftSteps")) (by decide)
  have F51 : Fld Z h39 b39 c_5 "walk" "Lcom/example/slackline/slackline/replay/Plan$Walk;" .null := D39 (Or.inr (own_w hw 198 rfl)) (ty := (.object "com/example/slackline/slackline/replay/Plan$Walk")) (by decide)
  have F52 : Fld Z h39 b39 c_5 "noNeeds" "[I" .null := D39 (Or.inr (own_w hw 200 rfl)) (ty := (.array .int)) (by decide)
  have F53 : Fld Z h39 b39 c_5 "version" "J" (.long 0) := D39 (Or.inl (own_w hw 247 rfl)) (ty := .long) (by decide)
  have F54 := (((Q26.wr W29).ext E32).wr W36).ext E39
  have F55 := F40.ext E39
  have go56 := (s_iconst (s_aload (s_dup go39 X39 hx (H at_112) rfl) X39 hx (H at_113) rfl rfl) X39 hx (H at_115) (v := 4) rfl)
  obtain ⟨_, _, ⟨T57, L57, k57, n57⟩, -, X57, ⟨Lc57, hQ57, l57, y57, z57⟩, g57⟩ := c_b go56 (X39.specialBack hx (y := y_28) rfl hown (mvT hZ (own_w hw 13 rfl)) (mvT hZ (own_w hw 14 rfl)) (mvT hZ (own_w hw 15 rfl)) (by decide) (backOf (W := 1) (rm3 l Z a0 hw [] b39 b26 k26 h39 n0 Z43 A39 F44 F45 F46 F47 F48 F49 F50 F51 F52 F53 F54 F55 g_b39 (Ne.symm (Nat.ne_of_lt l41))) hZ (own_w hw 15 rfl) (own_w hw 12 rfl) (by decide) (by decide)) (g := mkF m _ _ _) rfl (by rw [hml]; rfl) (Steps.refl _) (a := b39) (argsL := [(.ref b26), (.int 4)]) (rest := [(.ref b39)]) (lenOf pd0_1 rfl) rfl (by show 2 * 0 + _ ≤ _; exact Nat.le_of_eq rfl) (H at_116) (fun _ _ => ⟨rfl, e39, (by decide : 3 + 30 ≤ _), (by decide : 12 + 401 ≤ _)⟩))
  dsimp only [Pt.U, Pt.locs, Pt.cells, Pt.slots] at X57 l57 y57 z57 g57 hQ57
  subst l57 y57 z57
  obtain ⟨tf_57, tt_57, kf_57, kt_57, oS_57, rfl, Nq57, Kc57, b1_57, b2_57, b3_57, Fv_57, Ff_57, Ft_57, Fs_57, Af_57, At_57, iv_57, l1_57, l2_57, l3_57, n3_57⟩ := hQ57
  have N57 := Fr.app N36 Nq57
  have l58 := Nat.lt_of_lt_of_le F55.lt b1_57
  have F59 := V36.ext E39
  have l60 := Nat.lt_of_lt_of_le F59.lt b1_57
  have l61 := Nat.lt_of_lt_of_le A39.lt b1_57
  have g_tf_57 := Nat.le_trans Z43 b1_57
  have l62 := Nat.lt_of_lt_of_le F55.lt b2_57
  have l63 := Nat.lt_of_lt_of_le F59.lt b2_57
  have l64 := Nat.lt_of_lt_of_le A39.lt b2_57
  have g_tt_57 := Nat.le_trans Z43 b2_57
  have l65 := Nat.lt_of_lt_of_le F55.lt b3_57
  have l66 := Nat.lt_of_lt_of_le F59.lt b3_57
  have l67 := Nat.lt_of_lt_of_le A39.lt b3_57
  have g_oS_57 := Nat.le_trans Z43 b3_57
  have Z68 : n0 ≤ T57.heap.size := Nat.le_trans Z43 Kc57.1
  have go69 := cv g57
  have F70 := A39.keep Kc57
  have F71 := F59.keep Kc57 (ninS (Nat.ne_of_lt l42) nin0)
  have go72 := (s_aload (s_lload (s_lload (s_aload (s_astore go69 X57 hx (H at_119) rfl (L' := #[vj q1, .second, vj q2, .second, vj q3, .second, vj q4, .second, vj q5, .second, vi p6, vj w1, .second, vj z1, .second, vj w2, .second, vj z2, .second, vj w3, .second, vj z3, .second, vj (q4 &&& 9223372036854775807), .second, vj (q5 &&& 9223372036854775807), .second, vj fr, .second, vj to, .second, vj v31, .second, vr b26, vr b32, vr b39, .unset, .unset, .unset, .unset, .unset]) rfl) X57 hx (H at_121) rfl rfl) X57 hx (H at_123) rfl) X57 hx (H at_125) rfl) X57 hx (H at_127) rfl rfl)
  obtain ⟨cq73, kq73, qa73, qb73, qc73⟩ := isOf hZ rfl (F70)
  obtain ⟨_, _, ⟨T73, L73, k73, n73⟩, -, X73, ⟨Lc73, hQ73, l73, y73, z73⟩, g73⟩ := c_b go72 (X57.virtualBack hx (y := y_24) (z := y_24) hown (mvT hZ (own_w hw 201 rfl)) (mvT hZ (own_w hw 202 rfl)) (notFace_of_selects (args := #[]) (mvT hZ (own_w hw 204 rfl))) (mvT hZ (own_w hw 204 rfl)) (mvT hZ (own_w hw 203 rfl)) (by decide) (backOf (W := 0) (rm17_0 l Z a0 hw [] b39 w1 z1 b32 tf_57 tt_57 kf_57 kt_57 k32 oS_57 oS_57 (0 : Int) (T57.heap) n0 Z68 F70 Fv_57 Ff_57 Ft_57 Af_57 At_57 Fs_57 F71 iv_57 (by first | assumption | decide | omega : (0 : Int) ≤ 4) l1_57 l2_57 l3_57 l66 g_oS_57 g_b39 g_tf_57 g_tt_57 (Nat.ne_of_lt l61) (Nat.ne_of_lt l64) n3_57 (Nat.ne_of_lt l42) (Nat.ne_of_lt l60) (Nat.ne_of_lt l63)) hZ (own_w hw 205 rfl) (own_w hw 12 rfl) (by decide) (by decide)) qa73 qc73 (g := mkF m _ _ _) rfl (by rw [hml]; rfl) (Steps.refl _) (argsL := [(.long w1), (.long z1), (.ref b32)]) (rest := []) (lenOf pd0_2 rfl) rfl (by show 2 * 0 + _ ≤ _; exact Nat.le_of_eq rfl) (H at_129) (fun _ _ => ⟨rfl, rfl, (by decide : 33 + 12 ≤ _), (by decide : 413 + 48 ≤ _)⟩))
  dsimp only [Pt.U, Pt.locs, Pt.cells, Pt.slots] at X73 l73 y73 z73 g73 hQ73
  subst l73 y73 z73
  obtain ⟨rfl, Nq73, E0_73, Fv_73, Ff_73, Ft_73, Af_73, At_73, Fs_73, An_73, iv_73, hs_73⟩ := hQ73
  have N73 := Fr.app N57 Nq73
  have Z73 : n0 ≤ T73.heap.size := Nat.le_trans Z68 hs_73
  have go74 := cv g73
  have go75 := (s_aload (s_lload (s_lload (s_aload go74 X73 hx (H at_132) rfl rfl) X73 hx (H at_134) rfl) X73 hx (H at_136) rfl) X73 hx (H at_138) rfl rfl)
  obtain ⟨cq76, kq76, qa76, qb76, qc76⟩ := isOf hZ rfl (E0_73)
  obtain ⟨_, _, ⟨T76, L76, k76, n76⟩, -, X76, ⟨Lc76, hQ76, l76, y76, z76⟩, g76⟩ := c_b go75 (X73.virtualBack hx (y := y_24) (z := y_24) hown (mvT hZ (own_w hw 201 rfl)) (mvT hZ (own_w hw 202 rfl)) (notFace_of_selects (args := #[]) (mvT hZ (own_w hw 204 rfl))) (mvT hZ (own_w hw 204 rfl)) (mvT hZ (own_w hw 203 rfl)) (by decide) (backOf (W := 0) (rm17_1 l Z a0 hw [] b39 w2 z2 b32 tf_57 tt_57 kf_57 kt_57 k32 oS_57 oS_57 (((0 : Int) + 1) + 1) w1 z1 (T73.heap) n0 Z73 E0_73 Fv_73 Ff_73 Ft_73 Af_73 At_73 Fs_73 An_73 iv_73 (by first | assumption | decide | omega : (((0 : Int) + 1) + 1) ≤ 4) l1_57 l2_57 l3_57 l66 g_oS_57 g_b39 g_tf_57 g_tt_57 (Nat.ne_of_lt l61) (Nat.ne_of_lt l64) n3_57 (Nat.ne_of_lt l42) (Nat.ne_of_lt l60) (Nat.ne_of_lt l63)) hZ (own_w hw 205 rfl) (own_w hw 12 rfl) (by decide) (by decide)) qa76 qc76 (g := mkF m _ _ _) rfl (by rw [hml]; rfl) (Steps.refl _) (argsL := [(.long w2), (.long z2), (.ref b32)]) (rest := []) (lenOf pd0_2 rfl) rfl (by show 2 * 0 + _ ≤ _; exact Nat.le_of_eq rfl) (H at_140) (fun _ _ => ⟨rfl, rfl, (by decide : 45 + 12 ≤ _), (by decide : 461 + 48 ≤ _)⟩))
  dsimp only [Pt.U, Pt.locs, Pt.cells, Pt.slots] at X76 l76 y76 z76 g76 hQ76
  subst l76 y76 z76
  obtain ⟨rfl, Nq76, E0_76, Fv_76, Ff_76, Ft_76, Af_76, At_76, Fs_76, An_76, iv_76, hs_76⟩ := hQ76
  have N76 := Fr.app N73 Nq76
  have Z76 : n0 ≤ T76.heap.size := Nat.le_trans Z73 hs_76
  have go77 := cv g76
  have go78 := (s_aload (s_lload (s_lload (s_aload go77 X76 hx (H at_143) rfl rfl) X76 hx (H at_145) rfl) X76 hx (H at_147) rfl) X76 hx (H at_149) rfl rfl)
  obtain ⟨cq79, kq79, qa79, qb79, qc79⟩ := isOf hZ rfl (E0_76)
  obtain ⟨_, _, ⟨T79, L79, k79, n79⟩, -, X79, ⟨Lc79, hQ79, l79, y79, z79⟩, g79⟩ := c_b go78 (X76.virtualBack hx (y := y_24) (z := y_24) hown (mvT hZ (own_w hw 201 rfl)) (mvT hZ (own_w hw 202 rfl)) (notFace_of_selects (args := #[]) (mvT hZ (own_w hw 204 rfl))) (mvT hZ (own_w hw 204 rfl)) (mvT hZ (own_w hw 203 rfl)) (by decide) (backOf (W := 0) (rm17_2 l Z a0 hw [] b39 w3 z3 b32 tf_57 tt_57 kf_57 kt_57 k32 oS_57 oS_57 (((((0 : Int) + 1) + 1) + 1) + 1) w1 w2 z1 z2 (T76.heap) n0 Z76 E0_76 Fv_76 Ff_76 Ft_76 Af_76 At_76 Fs_76 An_76 iv_76 (by first | assumption | decide | omega : (((((0 : Int) + 1) + 1) + 1) + 1) ≤ 4) l1_57 l2_57 l3_57 l66 g_oS_57 g_b39 g_tf_57 g_tt_57 (Nat.ne_of_lt l61) (Nat.ne_of_lt l64) n3_57 (Nat.ne_of_lt l42) (Nat.ne_of_lt l60) (Nat.ne_of_lt l63)) hZ (own_w hw 205 rfl) (own_w hw 12 rfl) (by decide) (by decide)) qa79 qc79 (g := mkF m _ _ _) rfl (by rw [hml]; rfl) (Steps.refl _) (argsL := [(.long w3), (.long z3), (.ref b32)]) (rest := []) (lenOf pd0_2 rfl) rfl (by show 2 * 0 + _ ≤ _; exact Nat.le_of_eq rfl) (H at_151) (fun _ _ => ⟨rfl, rfl, (by decide : 57 + 12 ≤ _), (by decide : 509 + 48 ≤ _)⟩))
  dsimp only [Pt.U, Pt.locs, Pt.cells, Pt.slots] at X79 l79 y79 z79 g79 hQ79
  subst l79 y79 z79
  obtain ⟨rfl, Nq79, E0_79, Fv_79, Ff_79, Ft_79, Af_79, At_79, Fs_79, An_79, iv_79, hs_79⟩ := hQ79
  have N79 := Fr.app N76 Nq79
  have Z79 : n0 ≤ T79.heap.size := Nat.le_trans Z76 hs_79
  have go80 := cv g79
  have hcs81 : v31 = 0 ∨ v31 = 1 ∨ v31 = 2 ∨ v31 = 3 := own_4l h_v31
  rcases hcs81 with hcs81 | hcs81 | hcs81 | hcs81
  ·have go82 : Go p e below s₁ F0 T79 (mkF m 154 #[vj q1, .second, vj q2, .second, vj q3, .second, vj q4, .second, vj q5, .second, vi p6, vj w1, .second, vj z1, .second, vj w2, .second, vj z2, .second, vj w3, .second, vj z3, .second, vj (q4 &&& 9223372036854775807), .second, vj (q5 &&& 9223372036854775807), .second, vj fr, .second, vj to, .second, vj 0, .second, vr b26, vr b32, vr b39, .unset, .unset, .unset, .unset, .unset] []) := by rw [hcs81] at go80; exact go80
   have go83 := (s_lload (s_lload (s_lload (s_aload go82 X79 hx (H at_154) rfl rfl) X79 hx (H at_156) rfl) X79 hx (H at_158) rfl) X79 hx (H at_160) rfl)
   obtain ⟨cq84, kq84, qa84, qb84, qc84⟩ := isOf hZ rfl (E0_79)
   obtain ⟨_, _, ⟨T84, L84, k84, n84⟩, -, X84, ⟨Lc84, hQ84, l84, y84, z84⟩, g84⟩ := c_b go83 (X79.virtualBack hx (y := y_25) (z := y_25) hown (mvT hZ (own_w hw 269 rfl)) (mvT hZ (own_w hw 270 rfl)) (notFace_of_selects (args := #[]) (mvT hZ (own_w hw 272 rfl))) (mvT hZ (own_w hw 272 rfl)) (mvT hZ (own_w hw 271 rfl)) (by decide) (backOf (W := 0) (rm28_0 l Z a0 hw [] b39 fr to tf_57 tt_57 kf_57 kt_57 w1 w2 w3 z1 z2 z3 (T79.heap) n0 Z79 Fv_79 Ff_79 Ft_79 Af_79 At_79) hZ (own_w hw 273 rfl) (own_w hw 12 rfl) (by decide) (by decide)) qa84 qc84 (g := mkF m _ _ _) rfl (by rw [hml]; rfl) (Steps.refl _) (argsL := [(.long 0), (.long fr), (.long to)]) (rest := []) (lenOf pd0_3 rfl) rfl (by show 2 * 0 + _ ≤ _; exact Nat.le_of_eq rfl) (H at_162) (fun _ _ => ⟨rfl, rfl, (by decide : 69 + 0 ≤ _), (by decide : 557 + 0 ≤ _)⟩))
   dsimp only [Pt.U, Pt.locs, Pt.cells, Pt.slots] at X84 l84 y84 z84 g84 hQ84
   subst l84 y84 z84
   obtain ⟨rfl, Nq84, eh84⟩ := hQ84
   have N84 := Fr.app N79 Nq84
   have go85 := cr g84
   have go86 := (s_lload (s_lload (s_lload (s_lload (s_ifNo (s_lcmp (s_lconst (s_lload (s_istore go85 X84 hx (H at_165) (L' := #[vj q1, .second, vj q2, .second, vj q3, .second, vj q4, .second, vj q5, .second, vi p6, vj w1, .second, vj z1, .second, vj w2, .second, vj z2, .second, vj w3, .second, vj z3, .second, vj (q4 &&& 9223372036854775807), .second, vj (q5 &&& 9223372036854775807), .second, vj fr, .second, vj to, .second, vj 0, .second, vr b26, vr b32, vr b39, vi (f28_0 fr to w1 w2 w3 z1 z2 z3), .unset, .unset, .unset, .unset]) rfl) X84 hx (H at_167) rfl) X84 hx (H at_169) (v := 0) rfl) X84 hx (H at_170)) X84 hx (H at_171) ((if0 _ _).trans (flt (fun q => (by decide : ¬ ((0 : Int64) < 0)) ((lw_gt _ _).mp q))).2.2.1)) X84 hx (H at_174) rfl) X84 hx (H at_176) rfl) X84 hx (H at_178) rfl) X84 hx (H at_180) rfl)
   obtain ⟨_, _, ⟨T87, L87, k87, n87⟩, -, X87, ⟨Lc87, hQ87, l87, y87, z87⟩, g87⟩ := c_s go86 (Jvm.LawKit.callS X84 hx (y := y_26) hown (mvT hZ (own_w hw 275 rfl)) (mvT hZ (own_w hw 276 rfl)) (mvT hZ (own_w hw 277 rfl)) (mvT hZ (own_w hw 278 rfl)) (by decide) (backOf (W := 0) (rm29 l Z a0 hw [] w1 z1 fr to (T79.heap) n0 Z79 ) hZ (own_w hw 278 rfl) (own_w hw 277 rfl) (by decide) (by decide)) (g := mkF m _ _ _) rfl (by rw [hml]; rfl) (argsL := [(.long w1), (.long z1), (.long fr), (.long to)]) (rest := []) (lenOf pd0_4 rfl) rfl (by show 2 * 0 + _ ≤ _; exact Nat.le_of_eq rfl) (H at_182) (fun _ _ => ⟨rfl, eh84, (by decide : 69 + 0 ≤ _), (by decide : 557 + 0 ≤ _)⟩))
   dsimp only [Pt.U, Pt.locs, Pt.cells, Pt.slots] at X87 l87 y87 z87 g87 hQ87
   subst l87 y87 z87
   obtain ⟨rfl, Nq87, eh87⟩ := hQ87
   have N87 := Fr.app N84 Nq87
   have go88 := cr g87
   have go90 : Go p e below s₁ F0 T87 (mkF m 193 #[vj q1, .second, vj q2, .second, vj q3, .second, vj q4, .second, vj q5, .second, vi p6, vj w1, .second, vj z1, .second, vj w2, .second, vj z2, .second, vj w3, .second, vj z3, .second, vj (q4 &&& 9223372036854775807), .second, vj (q5 &&& 9223372036854775807), .second, vj fr, .second, vj to, .second, vj 0, .second, vr b26, vr b32, vr b39, vi (f28_0 fr to w1 w2 w3 z1 z2 z3), .unset, .unset, .unset, .unset] [(.int (if (f29 w1 z1 fr to) = 0 then (0 : Int32) else (1 : Int32)))]) := by
    intro t_ k_
    refine go88 t_ ?_
    by_cases hm185_89 : (f29 w1 z1 fr to) = 0
    ·simp only [if_pos hm185_89] at k_
     refine o_ifYes X87 hx (H at_185) (pc' := 192) rfl (by decide) ((if0 _ _).trans (teq hm185_89).1) ?_
     refine o_iconst X87 hx (H at_192) (v := 0) rfl ?_
     exact k_
    ·simp only [if_neg hm185_89] at k_
     refine o_ifNo X87 hx (H at_185) ((if0 _ _).trans (feq hm185_89).1) ?_
     refine o_iconst X87 hx (H at_188) (v := 1) rfl ?_
     refine o_goto X87 hx (H at_189) (pc' := 193) rfl (by decide) ?_
     exact k_
   have go91 := (s_lload (s_lload (s_lload (s_lload (s_ifNo (s_lcmp (s_lconst (s_lload (s_istore go90 X87 hx (H at_193) (L' := #[vj q1, .second, vj q2, .second, vj q3, .second, vj q4, .second, vj q5, .second, vi p6, vj w1, .second, vj z1, .second, vj w2, .second, vj z2, .second, vj w3, .second, vj z3, .second, vj (q4 &&& 9223372036854775807), .second, vj (q5 &&& 9223372036854775807), .second, vj fr, .second, vj to, .second, vj 0, .second, vr b26, vr b32, vr b39, vi (f28_0 fr to w1 w2 w3 z1 z2 z3), vi (if (f29 w1 z1 fr to) = 0 then (0 : Int32) else (1 : Int32)), .unset, .unset, .unset]) rfl) X87 hx (H at_195) rfl) X87 hx (H at_197) (v := 1) rfl) X87 hx (H at_198)) X87 hx (H at_199) ((if0 _ _).trans (flt (fun q => (by decide : ¬ ((1 : Int64) < 0)) ((lw_gt _ _).mp q))).2.2.1)) X87 hx (H at_202) rfl) X87 hx (H at_204) rfl) X87 hx (H at_206) rfl) X87 hx (H at_208) rfl)
   obtain ⟨_, _, ⟨T92, L92, k92, n92⟩, -, X92, ⟨Lc92, hQ92, l92, y92, z92⟩, g92⟩ := c_s go91 (Jvm.LawKit.callS X87 hx (y := y_26) hown (mvT hZ (own_w hw 275 rfl)) (mvT hZ (own_w hw 276 rfl)) (mvT hZ (own_w hw 277 rfl)) (mvT hZ (own_w hw 278 rfl)) (by decide) (backOf (W := 0) (rm29 l Z a0 hw [] w2 z2 fr to (T79.heap) n0 Z79 ) hZ (own_w hw 278 rfl) (own_w hw 277 rfl) (by decide) (by decide)) (g := mkF m _ _ _) rfl (by rw [hml]; rfl) (argsL := [(.long w2), (.long z2), (.long fr), (.long to)]) (rest := []) (lenOf pd0_4 rfl) rfl (by show 2 * 0 + _ ≤ _; exact Nat.le_of_eq rfl) (H at_210) (fun _ _ => ⟨rfl, eh87, (by decide : 69 + 0 ≤ _), (by decide : 557 + 0 ≤ _)⟩))
   dsimp only [Pt.U, Pt.locs, Pt.cells, Pt.slots] at X92 l92 y92 z92 g92 hQ92
   subst l92 y92 z92
   obtain ⟨rfl, Nq92, eh92⟩ := hQ92
   have N92 := Fr.app N87 Nq92
   have go93 := cr g92
   have go95 : Go p e below s₁ F0 T92 (mkF m 221 #[vj q1, .second, vj q2, .second, vj q3, .second, vj q4, .second, vj q5, .second, vi p6, vj w1, .second, vj z1, .second, vj w2, .second, vj z2, .second, vj w3, .second, vj z3, .second, vj (q4 &&& 9223372036854775807), .second, vj (q5 &&& 9223372036854775807), .second, vj fr, .second, vj to, .second, vj 0, .second, vr b26, vr b32, vr b39, vi (f28_0 fr to w1 w2 w3 z1 z2 z3), vi (if (f29 w1 z1 fr to) = 0 then (0 : Int32) else (1 : Int32)), .unset, .unset, .unset] [(.int (if (f29 w2 z2 fr to) = 0 then (0 : Int32) else (1 : Int32)))]) := by
    intro t_ k_
    refine go93 t_ ?_
    by_cases hm213_94 : (f29 w2 z2 fr to) = 0
    ·simp only [if_pos hm213_94] at k_
     refine o_ifYes X92 hx (H at_213) (pc' := 220) rfl (by decide) ((if0 _ _).trans (teq hm213_94).1) ?_
     refine o_iconst X92 hx (H at_220) (v := 0) rfl ?_
     exact k_
    ·simp only [if_neg hm213_94] at k_
     refine o_ifNo X92 hx (H at_213) ((if0 _ _).trans (feq hm213_94).1) ?_
     refine o_iconst X92 hx (H at_216) (v := 1) rfl ?_
     refine o_goto X92 hx (H at_217) (pc' := 221) rfl (by decide) ?_
     exact k_
   have go96 := (s_lload (s_lload (s_lload (s_lload (s_ifNo (s_lcmp (s_ldc2 (s_lload (s_istore go95 X92 hx (H at_221) (L' := #[vj q1, .second, vj q2, .second, vj q3, .second, vj q4, .second, vj q5, .second, vi p6, vj w1, .second, vj z1, .second, vj w2, .second, vj z2, .second, vj w3, .second, vj z3, .second, vj (q4 &&& 9223372036854775807), .second, vj (q5 &&& 9223372036854775807), .second, vj fr, .second, vj to, .second, vj 0, .second, vr b26, vr b32, vr b39, vi (f28_0 fr to w1 w2 w3 z1 z2 z3), vi (if (f29 w1 z1 fr to) = 0 then (0 : Int32) else (1 : Int32)), vi (if (f29 w2 z2 fr to) = 0 then (0 : Int32) else (1 : Int32)), .unset, .unset]) rfl) X92 hx (H at_223) rfl) X92 hx hown (mvT hZ (own_w hw 274 rfl)) (H at_225)) X92 hx (H at_228)) X92 hx (H at_229) ((if0 _ _).trans (flt (fun q => (by decide : ¬ ((2 : Int64) < 0)) ((lw_gt _ _).mp q))).2.2.1)) X92 hx (H at_232) rfl) X92 hx (H at_234) rfl) X92 hx (H at_236) rfl) X92 hx (H at_238) rfl)
   obtain ⟨_, _, ⟨T97, L97, k97, n97⟩, -, X97, ⟨Lc97, hQ97, l97, y97, z97⟩, g97⟩ := c_s go96 (Jvm.LawKit.callS X92 hx (y := y_26) hown (mvT hZ (own_w hw 275 rfl)) (mvT hZ (own_w hw 276 rfl)) (mvT hZ (own_w hw 277 rfl)) (mvT hZ (own_w hw 278 rfl)) (by decide) (backOf (W := 0) (rm29 l Z a0 hw [] w3 z3 fr to (T79.heap) n0 Z79 ) hZ (own_w hw 278 rfl) (own_w hw 277 rfl) (by decide) (by decide)) (g := mkF m _ _ _) rfl (by rw [hml]; rfl) (argsL := [(.long w3), (.long z3), (.long fr), (.long to)]) (rest := []) (lenOf pd0_4 rfl) rfl (by show 2 * 0 + _ ≤ _; exact Nat.le_of_eq rfl) (H at_240) (fun _ _ => ⟨rfl, eh92, (by decide : 69 + 0 ≤ _), (by decide : 557 + 0 ≤ _)⟩))
   dsimp only [Pt.U, Pt.locs, Pt.cells, Pt.slots] at X97 l97 y97 z97 g97 hQ97
   subst l97 y97 z97
   obtain ⟨rfl, Nq97, eh97⟩ := hQ97
   have N97 := Fr.app N92 Nq97
   have go98 := cr g97
   have go100 : Go p e below s₁ F0 T97 (mkF m 251 #[vj q1, .second, vj q2, .second, vj q3, .second, vj q4, .second, vj q5, .second, vi p6, vj w1, .second, vj z1, .second, vj w2, .second, vj z2, .second, vj w3, .second, vj z3, .second, vj (q4 &&& 9223372036854775807), .second, vj (q5 &&& 9223372036854775807), .second, vj fr, .second, vj to, .second, vj 0, .second, vr b26, vr b32, vr b39, vi (f28_0 fr to w1 w2 w3 z1 z2 z3), vi (if (f29 w1 z1 fr to) = 0 then (0 : Int32) else (1 : Int32)), vi (if (f29 w2 z2 fr to) = 0 then (0 : Int32) else (1 : Int32)), .unset, .unset] [(.int (if (f29 w3 z3 fr to) = 0 then (0 : Int32) else (1 : Int32)))]) := by
    intro t_ k_
    refine go98 t_ ?_
    by_cases hm243_99 : (f29 w3 z3 fr to) = 0
    ·simp only [if_pos hm243_99] at k_
     refine o_ifYes X97 hx (H at_243) (pc' := 250) rfl (by decide) ((if0 _ _).trans (teq hm243_99).1) ?_
     refine o_iconst X97 hx (H at_250) (v := 0) rfl ?_
     exact k_
    ·simp only [if_neg hm243_99] at k_
     refine o_ifNo X97 hx (H at_243) ((if0 _ _).trans (feq hm243_99).1) ?_
     refine o_iconst X97 hx (H at_246) (v := 1) rfl ?_
     refine o_goto X97 hx (H at_247) (pc' := 251) rfl (by decide) ?_
     exact k_
   have go101 := (s_iload (s_istore go100 X97 hx (H at_251) (L' := #[vj q1, .second, vj q2, .second, vj q3, .second, vj q4, .second, vj q5, .second, vi p6, vj w1, .second, vj z1, .second, vj w2, .second, vj z2, .second, vj w3, .second, vj z3, .second, vj (q4 &&& 9223372036854775807), .second, vj (q5 &&& 9223372036854775807), .second, vj fr, .second, vj to, .second, vj 0, .second, vr b26, vr b32, vr b39, vi (f28_0 fr to w1 w2 w3 z1 z2 z3), vi (if (f29 w1 z1 fr to) = 0 then (0 : Int32) else (1 : Int32)), vi (if (f29 w2 z2 fr to) = 0 then (0 : Int32) else (1 : Int32)), vi (if (f29 w3 z3 fr to) = 0 then (0 : Int32) else (1 : Int32)), .unset]) rfl) X97 hx (H at_253) rfl)
   have go105 : Go p e below s₁ F0 T97 (mkF m 273 #[vj q1, .second, vj q2, .second, vj q3, .second, vj q4, .second, vj q5, .second, vi p6, vj w1, .second, vj z1, .second, vj w2, .second, vj z2, .second, vj w3, .second, vj z3, .second, vj (q4 &&& 9223372036854775807), .second, vj (q5 &&& 9223372036854775807), .second, vj fr, .second, vj to, .second, vj 0, .second, vr b26, vr b32, vr b39, vi (f28_0 fr to w1 w2 w3 z1 z2 z3), vi (if (f29 w1 z1 fr to) = 0 then (0 : Int32) else (1 : Int32)), vi (if (f29 w2 z2 fr to) = 0 then (0 : Int32) else (1 : Int32)), vi (if (f29 w3 z3 fr to) = 0 then (0 : Int32) else (1 : Int32)), .unset] [(.int (if (if (f29 w1 z1 fr to) = 0 then (0 : Int32) else (1 : Int32)) = 0 then (if (if (f29 w2 z2 fr to) = 0 then (0 : Int32) else (1 : Int32)) = 0 then (if (if (f29 w3 z3 fr to) = 0 then (0 : Int32) else (1 : Int32)) = 0 then (1 : Int32) else (0 : Int32)) else (0 : Int32)) else (0 : Int32)))]) := by
    intro t_ k_
    refine go101 t_ ?_
    by_cases hm255_102 : (if (f29 w1 z1 fr to) = 0 then (0 : Int32) else (1 : Int32)) = 0
    ·simp only [if_pos hm255_102] at k_
     by_cases hm260_103 : (if (f29 w2 z2 fr to) = 0 then (0 : Int32) else (1 : Int32)) = 0
     ·simp only [if_pos hm260_103] at k_
      by_cases hm265_104 : (if (f29 w3 z3 fr to) = 0 then (0 : Int32) else (1 : Int32)) = 0
      ·simp only [if_pos hm265_104] at k_
       refine o_ifNo X97 hx (H at_255) ((if0 _ _).trans (teq hm255_102).2) ?_
       refine o_iload X97 hx (H at_258) rfl ?_
       refine o_ifNo X97 hx (H at_260) ((if0 _ _).trans (teq hm260_103).2) ?_
       refine o_iload X97 hx (H at_263) rfl ?_
       refine o_ifNo X97 hx (H at_265) ((if0 _ _).trans (teq hm265_104).2) ?_
       refine o_iconst X97 hx (H at_268) (v := 1) rfl ?_
       refine o_goto X97 hx (H at_269) (pc' := 273) rfl (by decide) ?_
       exact k_
      ·simp only [if_neg hm265_104] at k_
       refine o_ifNo X97 hx (H at_255) ((if0 _ _).trans (teq hm255_102).2) ?_
       refine o_iload X97 hx (H at_258) rfl ?_
       refine o_ifNo X97 hx (H at_260) ((if0 _ _).trans (teq hm260_103).2) ?_
       refine o_iload X97 hx (H at_263) rfl ?_
       refine o_ifYes X97 hx (H at_265) (pc' := 272) rfl (by decide) ((if0 _ _).trans (feq hm265_104).2) ?_
       refine o_iconst X97 hx (H at_272) (v := 0) rfl ?_
       exact k_
     ·simp only [if_neg hm260_103] at k_
      refine o_ifNo X97 hx (H at_255) ((if0 _ _).trans (teq hm255_102).2) ?_
      refine o_iload X97 hx (H at_258) rfl ?_
      refine o_ifYes X97 hx (H at_260) (pc' := 272) rfl (by decide) ((if0 _ _).trans (feq hm260_103).2) ?_
      refine o_iconst X97 hx (H at_272) (v := 0) rfl ?_
      exact k_
    ·simp only [if_neg hm255_102] at k_
     refine o_ifYes X97 hx (H at_255) (pc' := 272) rfl (by decide) ((if0 _ _).trans (feq hm255_102).2) ?_
     refine o_iconst X97 hx (H at_272) (v := 0) rfl ?_
     exact k_
   have go107 := (s_iload (s_iload (s_istore go105 X97 hx (H at_273) (L' := #[vj q1, .second, vj q2, .second, vj q3, .second, vj q4, .second, vj q5, .second, vi p6, vj w1, .second, vj z1, .second, vj w2, .second, vj z2, .second, vj w3, .second, vj z3, .second, vj (q4 &&& 9223372036854775807), .second, vj (q5 &&& 9223372036854775807), .second, vj fr, .second, vj to, .second, vj 0, .second, vr b26, vr b32, vr b39, vi (f28_0 fr to w1 w2 w3 z1 z2 z3), vi (if (f29 w1 z1 fr to) = 0 then (0 : Int32) else (1 : Int32)), vi (if (f29 w2 z2 fr to) = 0 then (0 : Int32) else (1 : Int32)), vi (if (f29 w3 z3 fr to) = 0 then (0 : Int32) else (1 : Int32)), vi (if (if (f29 w1 z1 fr to) = 0 then (0 : Int32) else (1 : Int32)) = 0 then (if (if (f29 w2 z2 fr to) = 0 then (0 : Int32) else (1 : Int32)) = 0 then (if (if (f29 w3 z3 fr to) = 0 then (0 : Int32) else (1 : Int32)) = 0 then (1 : Int32) else (0 : Int32)) else (0 : Int32)) else (0 : Int32))]) rfl) X97 hx (H at_275) rfl) X97 hx (H at_277) rfl)
   have hd106 : (f28_0 fr to w1 w2 w3 z1 z2 z3) = (if (if (f29 w1 z1 fr to) = 0 then (0 : Int32) else (1 : Int32)) = 0 then (if (if (f29 w2 z2 fr to) = 0 then (0 : Int32) else (1 : Int32)) = 0 then (if (if (f29 w3 z3 fr to) = 0 then (0 : Int32) else (1 : Int32)) = 0 then (1 : Int32) else (0 : Int32)) else (0 : Int32)) else (0 : Int32)) := own_law_0 fr to w1 w2 w3 z1 z2 z3
   have go108 := (s_aload (s_icmpNo go107 X97 hx (H at_279) (teq hd106).2) X97 hx (H at_282) rfl rfl)
   obtain ⟨cq109, kq109, qa109, qb109, qc109⟩ := isOf hZ eh97 (E0_79)
   obtain ⟨_, _, ⟨T109, L109, k109, n109⟩, -, X109, ⟨Lc109, hQ109, l109, y109, z109⟩, g109⟩ := c_b go108 (X97.virtualBack hx (y := y_27) (z := y_27) hown (mvT hZ (own_w hw 279 rfl)) (mvT hZ (own_w hw 280 rfl)) (notFace_of_selects (args := #[]) (mvT hZ (own_w hw 282 rfl))) (mvT hZ (own_w hw 282 rfl)) (mvT hZ (own_w hw 281 rfl)) (by decide) (backOf (W := 0) (rm30 l Z a0 hw [] b39 (T79.heap) n0 Z79 Fv_79) hZ (own_w hw 283 rfl) (own_w hw 12 rfl) (by decide) (by decide)) qa109 qc109 (g := mkF m _ _ _) rfl (by rw [hml]; rfl) (Steps.refl _) (argsL := []) (rest := []) (lenOf pd0_5 rfl) rfl (by show 2 * 0 + _ ≤ _; exact Nat.le_of_eq rfl) (H at_284) (fun _ _ => ⟨rfl, eh97, (by decide : 69 + 0 ≤ _), (by decide : 557 + 0 ≤ _)⟩))
   dsimp only [Pt.U, Pt.locs, Pt.cells, Pt.slots] at X109 l109 y109 z109 g109 hQ109
   subst l109 y109 z109
   obtain ⟨rfl, Nq109, eh109⟩ := hQ109
   have N109 := Fr.app N97 Nq109
   have go110 := cr g109
   have go111 := (s_goto (s_iconst (s_ifNo (s_lcmp (s_ldc2 go110 X109 hx hown (mvT hZ (own_w hw 284 rfl)) (H at_287)) X109 hx (H at_290)) X109 hx (H at_291) ((if0 _ _).trans (teq ((lw_eq _ _).mpr (by decide : (3 : Int64) = 3))).2)) X109 hx (H at_294) (v := 1) rfl) X109 hx (H at_295) (pc' := 299) rfl (by decide))
   refine own_fZ (Q := Q0 Z a0 q1 q2 q3 q4 q5 p6 h0 n0) Bd.notSynchronized hx Bd.returns pre0 X109 go111 (H at_299) eh109 (by decide) (by decide) (zz := (1 : Int32)) rfl ?_
   exact ⟨rfl, N109⟩
  ·have go112 : Go p e below s₁ F0 T79 (mkF m 154 #[vj q1, .second, vj q2, .second, vj q3, .second, vj q4, .second, vj q5, .second, vi p6, vj w1, .second, vj z1, .second, vj w2, .second, vj z2, .second, vj w3, .second, vj z3, .second, vj (q4 &&& 9223372036854775807), .second, vj (q5 &&& 9223372036854775807), .second, vj fr, .second, vj to, .second, vj 1, .second, vr b26, vr b32, vr b39, .unset, .unset, .unset, .unset, .unset] []) := by rw [hcs81] at go80; exact go80
   have go113 := (s_lload (s_lload (s_lload (s_aload go112 X79 hx (H at_154) rfl rfl) X79 hx (H at_156) rfl) X79 hx (H at_158) rfl) X79 hx (H at_160) rfl)
   obtain ⟨cq114, kq114, qa114, qb114, qc114⟩ := isOf hZ rfl (E0_79)
   obtain ⟨_, _, ⟨T114, L114, k114, n114⟩, -, X114, ⟨Lc114, hQ114, l114, y114, z114⟩, g114⟩ := c_b go113 (X79.virtualBack hx (y := y_25) (z := y_25) hown (mvT hZ (own_w hw 269 rfl)) (mvT hZ (own_w hw 270 rfl)) (notFace_of_selects (args := #[]) (mvT hZ (own_w hw 272 rfl))) (mvT hZ (own_w hw 272 rfl)) (mvT hZ (own_w hw 271 rfl)) (by decide) (backOf (W := 0) (rm28_1 l Z a0 hw [] b39 fr to tf_57 tt_57 kf_57 kt_57 w1 w2 w3 z1 z2 z3 (T79.heap) n0 Z79 Fv_79 Ff_79 Ft_79 Af_79 At_79) hZ (own_w hw 273 rfl) (own_w hw 12 rfl) (by decide) (by decide)) qa114 qc114 (g := mkF m _ _ _) rfl (by rw [hml]; rfl) (Steps.refl _) (argsL := [(.long 1), (.long fr), (.long to)]) (rest := []) (lenOf pd0_3 rfl) rfl (by show 2 * 0 + _ ≤ _; exact Nat.le_of_eq rfl) (H at_162) (fun _ _ => ⟨rfl, rfl, (by decide : 69 + 0 ≤ _), (by decide : 557 + 0 ≤ _)⟩))
   dsimp only [Pt.U, Pt.locs, Pt.cells, Pt.slots] at X114 l114 y114 z114 g114 hQ114
   subst l114 y114 z114
   obtain ⟨rfl, Nq114, eh114⟩ := hQ114
   have N114 := Fr.app N79 Nq114
   have go115 := cr g114
   have go116 := (s_lload (s_lload (s_lload (s_lload (s_ifNo (s_lcmp (s_lconst (s_lload (s_istore (s_iconst (s_ifYes (s_lcmp (s_lconst (s_lload (s_istore go115 X114 hx (H at_165) (L' := #[vj q1, .second, vj q2, .second, vj q3, .second, vj q4, .second, vj q5, .second, vi p6, vj w1, .second, vj z1, .second, vj w2, .second, vj z2, .second, vj w3, .second, vj z3, .second, vj (q4 &&& 9223372036854775807), .second, vj (q5 &&& 9223372036854775807), .second, vj fr, .second, vj to, .second, vj 1, .second, vr b26, vr b32, vr b39, vi (f28_1 fr to w1 w2 w3 z1 z2 z3), .unset, .unset, .unset, .unset]) rfl) X114 hx (H at_167) rfl) X114 hx (H at_169) (v := 0) rfl) X114 hx (H at_170)) X114 hx (H at_171) (pc' := 192) rfl (by decide) ((if0 _ _).trans (tlt ((lw_gt _ _).mpr (by decide : (0 : Int64) < 1))).2.2.1)) X114 hx (H at_192) (v := 0) rfl) X114 hx (H at_193) (L' := #[vj q1, .second, vj q2, .second, vj q3, .second, vj q4, .second, vj q5, .second, vi p6, vj w1, .second, vj z1, .second, vj w2, .second, vj z2, .second, vj w3, .second, vj z3, .second, vj (q4 &&& 9223372036854775807), .second, vj (q5 &&& 9223372036854775807), .second, vj fr, .second, vj to, .second, vj 1, .second, vr b26, vr b32, vr b39, vi (f28_1 fr to w1 w2 w3 z1 z2 z3), vi 0, .unset, .unset, .unset]) rfl) X114 hx (H at_195) rfl) X114 hx (H at_197) (v := 1) rfl) X114 hx (H at_198)) X114 hx (H at_199) ((if0 _ _).trans (flt (fun q => (by decide : ¬ ((1 : Int64) < 1)) ((lw_gt _ _).mp q))).2.2.1)) X114 hx (H at_202) rfl) X114 hx (H at_204) rfl) X114 hx (H at_206) rfl) X114 hx (H at_208) rfl)
   obtain ⟨_, _, ⟨T117, L117, k117, n117⟩, -, X117, ⟨Lc117, hQ117, l117, y117, z117⟩, g117⟩ := c_s go116 (Jvm.LawKit.callS X114 hx (y := y_26) hown (mvT hZ (own_w hw 275 rfl)) (mvT hZ (own_w hw 276 rfl)) (mvT hZ (own_w hw 277 rfl)) (mvT hZ (own_w hw 278 rfl)) (by decide) (backOf (W := 0) (rm29 l Z a0 hw [] w2 z2 fr to (T79.heap) n0 Z79 ) hZ (own_w hw 278 rfl) (own_w hw 277 rfl) (by decide) (by decide)) (g := mkF m _ _ _) rfl (by rw [hml]; rfl) (argsL := [(.long w2), (.long z2), (.long fr), (.long to)]) (rest := []) (lenOf pd0_4 rfl) rfl (by show 2 * 0 + _ ≤ _; exact Nat.le_of_eq rfl) (H at_210) (fun _ _ => ⟨rfl, eh114, (by decide : 69 + 0 ≤ _), (by decide : 557 + 0 ≤ _)⟩))
   dsimp only [Pt.U, Pt.locs, Pt.cells, Pt.slots] at X117 l117 y117 z117 g117 hQ117
   subst l117 y117 z117
   obtain ⟨rfl, Nq117, eh117⟩ := hQ117
   have N117 := Fr.app N114 Nq117
   have go118 := cr g117
   have go120 : Go p e below s₁ F0 T117 (mkF m 221 #[vj q1, .second, vj q2, .second, vj q3, .second, vj q4, .second, vj q5, .second, vi p6, vj w1, .second, vj z1, .second, vj w2, .second, vj z2, .second, vj w3, .second, vj z3, .second, vj (q4 &&& 9223372036854775807), .second, vj (q5 &&& 9223372036854775807), .second, vj fr, .second, vj to, .second, vj 1, .second, vr b26, vr b32, vr b39, vi (f28_1 fr to w1 w2 w3 z1 z2 z3), vi 0, .unset, .unset, .unset] [(.int (if (f29 w2 z2 fr to) = 0 then (0 : Int32) else (1 : Int32)))]) := by
    intro t_ k_
    refine go118 t_ ?_
    by_cases hm213_119 : (f29 w2 z2 fr to) = 0
    ·simp only [if_pos hm213_119] at k_
     refine o_ifYes X117 hx (H at_213) (pc' := 220) rfl (by decide) ((if0 _ _).trans (teq hm213_119).1) ?_
     refine o_iconst X117 hx (H at_220) (v := 0) rfl ?_
     exact k_
    ·simp only [if_neg hm213_119] at k_
     refine o_ifNo X117 hx (H at_213) ((if0 _ _).trans (feq hm213_119).1) ?_
     refine o_iconst X117 hx (H at_216) (v := 1) rfl ?_
     refine o_goto X117 hx (H at_217) (pc' := 221) rfl (by decide) ?_
     exact k_
   have go121 := (s_lload (s_lload (s_lload (s_lload (s_ifNo (s_lcmp (s_ldc2 (s_lload (s_istore go120 X117 hx (H at_221) (L' := #[vj q1, .second, vj q2, .second, vj q3, .second, vj q4, .second, vj q5, .second, vi p6, vj w1, .second, vj z1, .second, vj w2, .second, vj z2, .second, vj w3, .second, vj z3, .second, vj (q4 &&& 9223372036854775807), .second, vj (q5 &&& 9223372036854775807), .second, vj fr, .second, vj to, .second, vj 1, .second, vr b26, vr b32, vr b39, vi (f28_1 fr to w1 w2 w3 z1 z2 z3), vi 0, vi (if (f29 w2 z2 fr to) = 0 then (0 : Int32) else (1 : Int32)), .unset, .unset]) rfl) X117 hx (H at_223) rfl) X117 hx hown (mvT hZ (own_w hw 274 rfl)) (H at_225)) X117 hx (H at_228)) X117 hx (H at_229) ((if0 _ _).trans (flt (fun q => (by decide : ¬ ((2 : Int64) < 1)) ((lw_gt _ _).mp q))).2.2.1)) X117 hx (H at_232) rfl) X117 hx (H at_234) rfl) X117 hx (H at_236) rfl) X117 hx (H at_238) rfl)
   obtain ⟨_, _, ⟨T122, L122, k122, n122⟩, -, X122, ⟨Lc122, hQ122, l122, y122, z122⟩, g122⟩ := c_s go121 (Jvm.LawKit.callS X117 hx (y := y_26) hown (mvT hZ (own_w hw 275 rfl)) (mvT hZ (own_w hw 276 rfl)) (mvT hZ (own_w hw 277 rfl)) (mvT hZ (own_w hw 278 rfl)) (by decide) (backOf (W := 0) (rm29 l Z a0 hw [] w3 z3 fr to (T79.heap) n0 Z79 ) hZ (own_w hw 278 rfl) (own_w hw 277 rfl) (by decide) (by decide)) (g := mkF m _ _ _) rfl (by rw [hml]; rfl) (argsL := [(.long w3), (.long z3), (.long fr), (.long to)]) (rest := []) (lenOf pd0_4 rfl) rfl (by show 2 * 0 + _ ≤ _; exact Nat.le_of_eq rfl) (H at_240) (fun _ _ => ⟨rfl, eh117, (by decide : 69 + 0 ≤ _), (by decide : 557 + 0 ≤ _)⟩))
   dsimp only [Pt.U, Pt.locs, Pt.cells, Pt.slots] at X122 l122 y122 z122 g122 hQ122
   subst l122 y122 z122
   obtain ⟨rfl, Nq122, eh122⟩ := hQ122
   have N122 := Fr.app N117 Nq122
   have go123 := cr g122
   have go125 : Go p e below s₁ F0 T122 (mkF m 251 #[vj q1, .second, vj q2, .second, vj q3, .second, vj q4, .second, vj q5, .second, vi p6, vj w1, .second, vj z1, .second, vj w2, .second, vj z2, .second, vj w3, .second, vj z3, .second, vj (q4 &&& 9223372036854775807), .second, vj (q5 &&& 9223372036854775807), .second, vj fr, .second, vj to, .second, vj 1, .second, vr b26, vr b32, vr b39, vi (f28_1 fr to w1 w2 w3 z1 z2 z3), vi 0, vi (if (f29 w2 z2 fr to) = 0 then (0 : Int32) else (1 : Int32)), .unset, .unset] [(.int (if (f29 w3 z3 fr to) = 0 then (0 : Int32) else (1 : Int32)))]) := by
    intro t_ k_
    refine go123 t_ ?_
    by_cases hm243_124 : (f29 w3 z3 fr to) = 0
    ·simp only [if_pos hm243_124] at k_
     refine o_ifYes X122 hx (H at_243) (pc' := 250) rfl (by decide) ((if0 _ _).trans (teq hm243_124).1) ?_
     refine o_iconst X122 hx (H at_250) (v := 0) rfl ?_
     exact k_
    ·simp only [if_neg hm243_124] at k_
     refine o_ifNo X122 hx (H at_243) ((if0 _ _).trans (feq hm243_124).1) ?_
     refine o_iconst X122 hx (H at_246) (v := 1) rfl ?_
     refine o_goto X122 hx (H at_247) (pc' := 251) rfl (by decide) ?_
     exact k_
   have go126 := (s_iload (s_ifNo (s_iload (s_istore go125 X122 hx (H at_251) (L' := #[vj q1, .second, vj q2, .second, vj q3, .second, vj q4, .second, vj q5, .second, vi p6, vj w1, .second, vj z1, .second, vj w2, .second, vj z2, .second, vj w3, .second, vj z3, .second, vj (q4 &&& 9223372036854775807), .second, vj (q5 &&& 9223372036854775807), .second, vj fr, .second, vj to, .second, vj 1, .second, vr b26, vr b32, vr b39, vi (f28_1 fr to w1 w2 w3 z1 z2 z3), vi 0, vi (if (f29 w2 z2 fr to) = 0 then (0 : Int32) else (1 : Int32)), vi (if (f29 w3 z3 fr to) = 0 then (0 : Int32) else (1 : Int32)), .unset]) rfl) X122 hx (H at_253) rfl) X122 hx (H at_255) ((if0 _ _).trans (teq (by decide : (0 : Int32) = 0)).2)) X122 hx (H at_258) rfl)
   have go129 : Go p e below s₁ F0 T122 (mkF m 273 #[vj q1, .second, vj q2, .second, vj q3, .second, vj q4, .second, vj q5, .second, vi p6, vj w1, .second, vj z1, .second, vj w2, .second, vj z2, .second, vj w3, .second, vj z3, .second, vj (q4 &&& 9223372036854775807), .second, vj (q5 &&& 9223372036854775807), .second, vj fr, .second, vj to, .second, vj 1, .second, vr b26, vr b32, vr b39, vi (f28_1 fr to w1 w2 w3 z1 z2 z3), vi 0, vi (if (f29 w2 z2 fr to) = 0 then (0 : Int32) else (1 : Int32)), vi (if (f29 w3 z3 fr to) = 0 then (0 : Int32) else (1 : Int32)), .unset] [(.int (if (if (f29 w2 z2 fr to) = 0 then (0 : Int32) else (1 : Int32)) = 0 then (if (if (f29 w3 z3 fr to) = 0 then (0 : Int32) else (1 : Int32)) = 0 then (1 : Int32) else (0 : Int32)) else (0 : Int32)))]) := by
    intro t_ k_
    refine go126 t_ ?_
    by_cases hm260_127 : (if (f29 w2 z2 fr to) = 0 then (0 : Int32) else (1 : Int32)) = 0
    ·simp only [if_pos hm260_127] at k_
     by_cases hm265_128 : (if (f29 w3 z3 fr to) = 0 then (0 : Int32) else (1 : Int32)) = 0
     ·simp only [if_pos hm265_128] at k_
      refine o_ifNo X122 hx (H at_260) ((if0 _ _).trans (teq hm260_127).2) ?_
      refine o_iload X122 hx (H at_263) rfl ?_
      refine o_ifNo X122 hx (H at_265) ((if0 _ _).trans (teq hm265_128).2) ?_
      refine o_iconst X122 hx (H at_268) (v := 1) rfl ?_
      refine o_goto X122 hx (H at_269) (pc' := 273) rfl (by decide) ?_
      exact k_
     ·simp only [if_neg hm265_128] at k_
      refine o_ifNo X122 hx (H at_260) ((if0 _ _).trans (teq hm260_127).2) ?_
      refine o_iload X122 hx (H at_263) rfl ?_
      refine o_ifYes X122 hx (H at_265) (pc' := 272) rfl (by decide) ((if0 _ _).trans (feq hm265_128).2) ?_
      refine o_iconst X122 hx (H at_272) (v := 0) rfl ?_
      exact k_
    ·simp only [if_neg hm260_127] at k_
     refine o_ifYes X122 hx (H at_260) (pc' := 272) rfl (by decide) ((if0 _ _).trans (feq hm260_127).2) ?_
     refine o_iconst X122 hx (H at_272) (v := 0) rfl ?_
     exact k_
   have go131 := (s_iload (s_iload (s_istore go129 X122 hx (H at_273) (L' := #[vj q1, .second, vj q2, .second, vj q3, .second, vj q4, .second, vj q5, .second, vi p6, vj w1, .second, vj z1, .second, vj w2, .second, vj z2, .second, vj w3, .second, vj z3, .second, vj (q4 &&& 9223372036854775807), .second, vj (q5 &&& 9223372036854775807), .second, vj fr, .second, vj to, .second, vj 1, .second, vr b26, vr b32, vr b39, vi (f28_1 fr to w1 w2 w3 z1 z2 z3), vi 0, vi (if (f29 w2 z2 fr to) = 0 then (0 : Int32) else (1 : Int32)), vi (if (f29 w3 z3 fr to) = 0 then (0 : Int32) else (1 : Int32)), vi (if (if (f29 w2 z2 fr to) = 0 then (0 : Int32) else (1 : Int32)) = 0 then (if (if (f29 w3 z3 fr to) = 0 then (0 : Int32) else (1 : Int32)) = 0 then (1 : Int32) else (0 : Int32)) else (0 : Int32))]) rfl) X122 hx (H at_275) rfl) X122 hx (H at_277) rfl)
   have hd130 : (f28_1 fr to w1 w2 w3 z1 z2 z3) = (if (if (f29 w2 z2 fr to) = 0 then (0 : Int32) else (1 : Int32)) = 0 then (if (if (f29 w3 z3 fr to) = 0 then (0 : Int32) else (1 : Int32)) = 0 then (1 : Int32) else (0 : Int32)) else (0 : Int32)) := own_law_1 fr to w1 w2 w3 z1 z2 z3
   have go132 := (s_aload (s_icmpNo go131 X122 hx (H at_279) (teq hd130).2) X122 hx (H at_282) rfl rfl)
   obtain ⟨cq133, kq133, qa133, qb133, qc133⟩ := isOf hZ eh122 (E0_79)
   obtain ⟨_, _, ⟨T133, L133, k133, n133⟩, -, X133, ⟨Lc133, hQ133, l133, y133, z133⟩, g133⟩ := c_b go132 (X122.virtualBack hx (y := y_27) (z := y_27) hown (mvT hZ (own_w hw 279 rfl)) (mvT hZ (own_w hw 280 rfl)) (notFace_of_selects (args := #[]) (mvT hZ (own_w hw 282 rfl))) (mvT hZ (own_w hw 282 rfl)) (mvT hZ (own_w hw 281 rfl)) (by decide) (backOf (W := 0) (rm30 l Z a0 hw [] b39 (T79.heap) n0 Z79 Fv_79) hZ (own_w hw 283 rfl) (own_w hw 12 rfl) (by decide) (by decide)) qa133 qc133 (g := mkF m _ _ _) rfl (by rw [hml]; rfl) (Steps.refl _) (argsL := []) (rest := []) (lenOf pd0_5 rfl) rfl (by show 2 * 0 + _ ≤ _; exact Nat.le_of_eq rfl) (H at_284) (fun _ _ => ⟨rfl, eh122, (by decide : 69 + 0 ≤ _), (by decide : 557 + 0 ≤ _)⟩))
   dsimp only [Pt.U, Pt.locs, Pt.cells, Pt.slots] at X133 l133 y133 z133 g133 hQ133
   subst l133 y133 z133
   obtain ⟨rfl, Nq133, eh133⟩ := hQ133
   have N133 := Fr.app N122 Nq133
   have go134 := cr g133
   have go135 := (s_goto (s_iconst (s_ifNo (s_lcmp (s_ldc2 go134 X133 hx hown (mvT hZ (own_w hw 284 rfl)) (H at_287)) X133 hx (H at_290)) X133 hx (H at_291) ((if0 _ _).trans (teq ((lw_eq _ _).mpr (by decide : (3 : Int64) = 3))).2)) X133 hx (H at_294) (v := 1) rfl) X133 hx (H at_295) (pc' := 299) rfl (by decide))
   refine own_fZ (Q := Q0 Z a0 q1 q2 q3 q4 q5 p6 h0 n0) Bd.notSynchronized hx Bd.returns pre0 X133 go135 (H at_299) eh133 (by decide) (by decide) (zz := (1 : Int32)) rfl ?_
   exact ⟨rfl, N133⟩
  ·have go136 : Go p e below s₁ F0 T79 (mkF m 154 #[vj q1, .second, vj q2, .second, vj q3, .second, vj q4, .second, vj q5, .second, vi p6, vj w1, .second, vj z1, .second, vj w2, .second, vj z2, .second, vj w3, .second, vj z3, .second, vj (q4 &&& 9223372036854775807), .second, vj (q5 &&& 9223372036854775807), .second, vj fr, .second, vj to, .second, vj 2, .second, vr b26, vr b32, vr b39, .unset, .unset, .unset, .unset, .unset] []) := by rw [hcs81] at go80; exact go80
   have go137 := (s_lload (s_lload (s_lload (s_aload go136 X79 hx (H at_154) rfl rfl) X79 hx (H at_156) rfl) X79 hx (H at_158) rfl) X79 hx (H at_160) rfl)
   obtain ⟨cq138, kq138, qa138, qb138, qc138⟩ := isOf hZ rfl (E0_79)
   obtain ⟨_, _, ⟨T138, L138, k138, n138⟩, -, X138, ⟨Lc138, hQ138, l138, y138, z138⟩, g138⟩ := c_b go137 (X79.virtualBack hx (y := y_25) (z := y_25) hown (mvT hZ (own_w hw 269 rfl)) (mvT hZ (own_w hw 270 rfl)) (notFace_of_selects (args := #[]) (mvT hZ (own_w hw 272 rfl))) (mvT hZ (own_w hw 272 rfl)) (mvT hZ (own_w hw 271 rfl)) (by decide) (backOf (W := 0) (rm28_2 l Z a0 hw [] b39 fr to tf_57 tt_57 kf_57 kt_57 w1 w2 w3 z1 z2 z3 (T79.heap) n0 Z79 Fv_79 Ff_79 Ft_79 Af_79 At_79) hZ (own_w hw 273 rfl) (own_w hw 12 rfl) (by decide) (by decide)) qa138 qc138 (g := mkF m _ _ _) rfl (by rw [hml]; rfl) (Steps.refl _) (argsL := [(.long 2), (.long fr), (.long to)]) (rest := []) (lenOf pd0_3 rfl) rfl (by show 2 * 0 + _ ≤ _; exact Nat.le_of_eq rfl) (H at_162) (fun _ _ => ⟨rfl, rfl, (by decide : 69 + 0 ≤ _), (by decide : 557 + 0 ≤ _)⟩))
   dsimp only [Pt.U, Pt.locs, Pt.cells, Pt.slots] at X138 l138 y138 z138 g138 hQ138
   subst l138 y138 z138
   obtain ⟨rfl, Nq138, eh138⟩ := hQ138
   have N138 := Fr.app N79 Nq138
   have go139 := cr g138
   have go140 := (s_lload (s_lload (s_lload (s_lload (s_ifNo (s_lcmp (s_ldc2 (s_lload (s_istore (s_iconst (s_ifYes (s_lcmp (s_lconst (s_lload (s_istore (s_iconst (s_ifYes (s_lcmp (s_lconst (s_lload (s_istore go139 X138 hx (H at_165) (L' := #[vj q1, .second, vj q2, .second, vj q3, .second, vj q4, .second, vj q5, .second, vi p6, vj w1, .second, vj z1, .second, vj w2, .second, vj z2, .second, vj w3, .second, vj z3, .second, vj (q4 &&& 9223372036854775807), .second, vj (q5 &&& 9223372036854775807), .second, vj fr, .second, vj to, .second, vj 2, .second, vr b26, vr b32, vr b39, vi (f28_2 fr to w1 w2 w3 z1 z2 z3), .unset, .unset, .unset, .unset]) rfl) X138 hx (H at_167) rfl) X138 hx (H at_169) (v := 0) rfl) X138 hx (H at_170)) X138 hx (H at_171) (pc' := 192) rfl (by decide) ((if0 _ _).trans (tlt ((lw_gt _ _).mpr (by decide : (0 : Int64) < 2))).2.2.1)) X138 hx (H at_192) (v := 0) rfl) X138 hx (H at_193) (L' := #[vj q1, .second, vj q2, .second, vj q3, .second, vj q4, .second, vj q5, .second, vi p6, vj w1, .second, vj z1, .second, vj w2, .second, vj z2, .second, vj w3, .second, vj z3, .second, vj (q4 &&& 9223372036854775807), .second, vj (q5 &&& 9223372036854775807), .second, vj fr, .second, vj to, .second, vj 2, .second, vr b26, vr b32, vr b39, vi (f28_2 fr to w1 w2 w3 z1 z2 z3), vi 0, .unset, .unset, .unset]) rfl) X138 hx (H at_195) rfl) X138 hx (H at_197) (v := 1) rfl) X138 hx (H at_198)) X138 hx (H at_199) (pc' := 220) rfl (by decide) ((if0 _ _).trans (tlt ((lw_gt _ _).mpr (by decide : (1 : Int64) < 2))).2.2.1)) X138 hx (H at_220) (v := 0) rfl) X138 hx (H at_221) (L' := #[vj q1, .second, vj q2, .second, vj q3, .second, vj q4, .second, vj q5, .second, vi p6, vj w1, .second, vj z1, .second, vj w2, .second, vj z2, .second, vj w3, .second, vj z3, .second, vj (q4 &&& 9223372036854775807), .second, vj (q5 &&& 9223372036854775807), .second, vj fr, .second, vj to, .second, vj 2, .second, vr b26, vr b32, vr b39, vi (f28_2 fr to w1 w2 w3 z1 z2 z3), vi 0, vi 0, .unset, .unset]) rfl) X138 hx (H at_223) rfl) X138 hx hown (mvT hZ (own_w hw 274 rfl)) (H at_225)) X138 hx (H at_228)) X138 hx (H at_229) ((if0 _ _).trans (flt (fun q => (by decide : ¬ ((2 : Int64) < 2)) ((lw_gt _ _).mp q))).2.2.1)) X138 hx (H at_232) rfl) X138 hx (H at_234) rfl) X138 hx (H at_236) rfl) X138 hx (H at_238) rfl)
   obtain ⟨_, _, ⟨T141, L141, k141, n141⟩, -, X141, ⟨Lc141, hQ141, l141, y141, z141⟩, g141⟩ := c_s go140 (Jvm.LawKit.callS X138 hx (y := y_26) hown (mvT hZ (own_w hw 275 rfl)) (mvT hZ (own_w hw 276 rfl)) (mvT hZ (own_w hw 277 rfl)) (mvT hZ (own_w hw 278 rfl)) (by decide) (backOf (W := 0) (rm29 l Z a0 hw [] w3 z3 fr to (T79.heap) n0 Z79 ) hZ (own_w hw 278 rfl) (own_w hw 277 rfl) (by decide) (by decide)) (g := mkF m _ _ _) rfl (by rw [hml]; rfl) (argsL := [(.long w3), (.long z3), (.long fr), (.long to)]) (rest := []) (lenOf pd0_4 rfl) rfl (by show 2 * 0 + _ ≤ _; exact Nat.le_of_eq rfl) (H at_240) (fun _ _ => ⟨rfl, eh138, (by decide : 69 + 0 ≤ _), (by decide : 557 + 0 ≤ _)⟩))
   dsimp only [Pt.U, Pt.locs, Pt.cells, Pt.slots] at X141 l141 y141 z141 g141 hQ141
   subst l141 y141 z141
   obtain ⟨rfl, Nq141, eh141⟩ := hQ141
   have N141 := Fr.app N138 Nq141
   have go142 := cr g141
   have go144 : Go p e below s₁ F0 T141 (mkF m 251 #[vj q1, .second, vj q2, .second, vj q3, .second, vj q4, .second, vj q5, .second, vi p6, vj w1, .second, vj z1, .second, vj w2, .second, vj z2, .second, vj w3, .second, vj z3, .second, vj (q4 &&& 9223372036854775807), .second, vj (q5 &&& 9223372036854775807), .second, vj fr, .second, vj to, .second, vj 2, .second, vr b26, vr b32, vr b39, vi (f28_2 fr to w1 w2 w3 z1 z2 z3), vi 0, vi 0, .unset, .unset] [(.int (if (f29 w3 z3 fr to) = 0 then (0 : Int32) else (1 : Int32)))]) := by
    intro t_ k_
    refine go142 t_ ?_
    by_cases hm243_143 : (f29 w3 z3 fr to) = 0
    ·simp only [if_pos hm243_143] at k_
     refine o_ifYes X141 hx (H at_243) (pc' := 250) rfl (by decide) ((if0 _ _).trans (teq hm243_143).1) ?_
     refine o_iconst X141 hx (H at_250) (v := 0) rfl ?_
     exact k_
    ·simp only [if_neg hm243_143] at k_
     refine o_ifNo X141 hx (H at_243) ((if0 _ _).trans (feq hm243_143).1) ?_
     refine o_iconst X141 hx (H at_246) (v := 1) rfl ?_
     refine o_goto X141 hx (H at_247) (pc' := 251) rfl (by decide) ?_
     exact k_
   have go145 := (s_iload (s_ifNo (s_iload (s_ifNo (s_iload (s_istore go144 X141 hx (H at_251) (L' := #[vj q1, .second, vj q2, .second, vj q3, .second, vj q4, .second, vj q5, .second, vi p6, vj w1, .second, vj z1, .second, vj w2, .second, vj z2, .second, vj w3, .second, vj z3, .second, vj (q4 &&& 9223372036854775807), .second, vj (q5 &&& 9223372036854775807), .second, vj fr, .second, vj to, .second, vj 2, .second, vr b26, vr b32, vr b39, vi (f28_2 fr to w1 w2 w3 z1 z2 z3), vi 0, vi 0, vi (if (f29 w3 z3 fr to) = 0 then (0 : Int32) else (1 : Int32)), .unset]) rfl) X141 hx (H at_253) rfl) X141 hx (H at_255) ((if0 _ _).trans (teq (by decide : (0 : Int32) = 0)).2)) X141 hx (H at_258) rfl) X141 hx (H at_260) ((if0 _ _).trans (teq (by decide : (0 : Int32) = 0)).2)) X141 hx (H at_263) rfl)
   have go147 : Go p e below s₁ F0 T141 (mkF m 273 #[vj q1, .second, vj q2, .second, vj q3, .second, vj q4, .second, vj q5, .second, vi p6, vj w1, .second, vj z1, .second, vj w2, .second, vj z2, .second, vj w3, .second, vj z3, .second, vj (q4 &&& 9223372036854775807), .second, vj (q5 &&& 9223372036854775807), .second, vj fr, .second, vj to, .second, vj 2, .second, vr b26, vr b32, vr b39, vi (f28_2 fr to w1 w2 w3 z1 z2 z3), vi 0, vi 0, vi (if (f29 w3 z3 fr to) = 0 then (0 : Int32) else (1 : Int32)), .unset] [(.int (if (if (f29 w3 z3 fr to) = 0 then (0 : Int32) else (1 : Int32)) = 0 then (1 : Int32) else (0 : Int32)))]) := by
    intro t_ k_
    refine go145 t_ ?_
    by_cases hm265_146 : (if (f29 w3 z3 fr to) = 0 then (0 : Int32) else (1 : Int32)) = 0
    ·simp only [if_pos hm265_146] at k_
     refine o_ifNo X141 hx (H at_265) ((if0 _ _).trans (teq hm265_146).2) ?_
     refine o_iconst X141 hx (H at_268) (v := 1) rfl ?_
     refine o_goto X141 hx (H at_269) (pc' := 273) rfl (by decide) ?_
     exact k_
    ·simp only [if_neg hm265_146] at k_
     refine o_ifYes X141 hx (H at_265) (pc' := 272) rfl (by decide) ((if0 _ _).trans (feq hm265_146).2) ?_
     refine o_iconst X141 hx (H at_272) (v := 0) rfl ?_
     exact k_
   have go149 := (s_iload (s_iload (s_istore go147 X141 hx (H at_273) (L' := #[vj q1, .second, vj q2, .second, vj q3, .second, vj q4, .second, vj q5, .second, vi p6, vj w1, .second, vj z1, .second, vj w2, .second, vj z2, .second, vj w3, .second, vj z3, .second, vj (q4 &&& 9223372036854775807), .second, vj (q5 &&& 9223372036854775807), .second, vj fr, .second, vj to, .second, vj 2, .second, vr b26, vr b32, vr b39, vi (f28_2 fr to w1 w2 w3 z1 z2 z3), vi 0, vi 0, vi (if (f29 w3 z3 fr to) = 0 then (0 : Int32) else (1 : Int32)), vi (if (if (f29 w3 z3 fr to) = 0 then (0 : Int32) else (1 : Int32)) = 0 then (1 : Int32) else (0 : Int32))]) rfl) X141 hx (H at_275) rfl) X141 hx (H at_277) rfl)
   have hd148 : (f28_2 fr to w1 w2 w3 z1 z2 z3) = (if (if (f29 w3 z3 fr to) = 0 then (0 : Int32) else (1 : Int32)) = 0 then (1 : Int32) else (0 : Int32)) := own_law_2 fr to w1 w2 w3 z1 z2 z3
   have go150 := (s_aload (s_icmpNo go149 X141 hx (H at_279) (teq hd148).2) X141 hx (H at_282) rfl rfl)
   obtain ⟨cq151, kq151, qa151, qb151, qc151⟩ := isOf hZ eh141 (E0_79)
   obtain ⟨_, _, ⟨T151, L151, k151, n151⟩, -, X151, ⟨Lc151, hQ151, l151, y151, z151⟩, g151⟩ := c_b go150 (X141.virtualBack hx (y := y_27) (z := y_27) hown (mvT hZ (own_w hw 279 rfl)) (mvT hZ (own_w hw 280 rfl)) (notFace_of_selects (args := #[]) (mvT hZ (own_w hw 282 rfl))) (mvT hZ (own_w hw 282 rfl)) (mvT hZ (own_w hw 281 rfl)) (by decide) (backOf (W := 0) (rm30 l Z a0 hw [] b39 (T79.heap) n0 Z79 Fv_79) hZ (own_w hw 283 rfl) (own_w hw 12 rfl) (by decide) (by decide)) qa151 qc151 (g := mkF m _ _ _) rfl (by rw [hml]; rfl) (Steps.refl _) (argsL := []) (rest := []) (lenOf pd0_5 rfl) rfl (by show 2 * 0 + _ ≤ _; exact Nat.le_of_eq rfl) (H at_284) (fun _ _ => ⟨rfl, eh141, (by decide : 69 + 0 ≤ _), (by decide : 557 + 0 ≤ _)⟩))
   dsimp only [Pt.U, Pt.locs, Pt.cells, Pt.slots] at X151 l151 y151 z151 g151 hQ151
   subst l151 y151 z151
   obtain ⟨rfl, Nq151, eh151⟩ := hQ151
   have N151 := Fr.app N141 Nq151
   have go152 := cr g151
   have go153 := (s_goto (s_iconst (s_ifNo (s_lcmp (s_ldc2 go152 X151 hx hown (mvT hZ (own_w hw 284 rfl)) (H at_287)) X151 hx (H at_290)) X151 hx (H at_291) ((if0 _ _).trans (teq ((lw_eq _ _).mpr (by decide : (3 : Int64) = 3))).2)) X151 hx (H at_294) (v := 1) rfl) X151 hx (H at_295) (pc' := 299) rfl (by decide))
   refine own_fZ (Q := Q0 Z a0 q1 q2 q3 q4 q5 p6 h0 n0) Bd.notSynchronized hx Bd.returns pre0 X151 go153 (H at_299) eh151 (by decide) (by decide) (zz := (1 : Int32)) rfl ?_
   exact ⟨rfl, N151⟩
  have go154 : Go p e below s₁ F0 T79 (mkF m 154 #[vj q1, .second, vj q2, .second, vj q3, .second, vj q4, .second, vj q5, .second, vi p6, vj w1, .second, vj z1, .second, vj w2, .second, vj z2, .second, vj w3, .second, vj z3, .second, vj (q4 &&& 9223372036854775807), .second, vj (q5 &&& 9223372036854775807), .second, vj fr, .second, vj to, .second, vj 3, .second, vr b26, vr b32, vr b39, .unset, .unset, .unset, .unset, .unset] []) := by rw [hcs81] at go80; exact go80
  have go155 := (s_lload (s_lload (s_lload (s_aload go154 X79 hx (H at_154) rfl rfl) X79 hx (H at_156) rfl) X79 hx (H at_158) rfl) X79 hx (H at_160) rfl)
  obtain ⟨cq156, kq156, qa156, qb156, qc156⟩ := isOf hZ rfl (E0_79)
  obtain ⟨_, _, ⟨T156, L156, k156, n156⟩, -, X156, ⟨Lc156, hQ156, l156, y156, z156⟩, g156⟩ := c_b go155 (X79.virtualBack hx (y := y_25) (z := y_25) hown (mvT hZ (own_w hw 269 rfl)) (mvT hZ (own_w hw 270 rfl)) (notFace_of_selects (args := #[]) (mvT hZ (own_w hw 272 rfl))) (mvT hZ (own_w hw 272 rfl)) (mvT hZ (own_w hw 271 rfl)) (by decide) (backOf (W := 0) (rm28_3 l Z a0 hw [] b39 fr to tf_57 tt_57 kf_57 kt_57 w1 w2 w3 z1 z2 z3 (T79.heap) n0 Z79 Fv_79 Ff_79 Ft_79 Af_79 At_79) hZ (own_w hw 273 rfl) (own_w hw 12 rfl) (by decide) (by decide)) qa156 qc156 (g := mkF m _ _ _) rfl (by rw [hml]; rfl) (Steps.refl _) (argsL := [(.long 3), (.long fr), (.long to)]) (rest := []) (lenOf pd0_3 rfl) rfl (by show 2 * 0 + _ ≤ _; exact Nat.le_of_eq rfl) (H at_162) (fun _ _ => ⟨rfl, rfl, (by decide : 69 + 0 ≤ _), (by decide : 557 + 0 ≤ _)⟩))
  dsimp only [Pt.U, Pt.locs, Pt.cells, Pt.slots] at X156 l156 y156 z156 g156 hQ156
  subst l156 y156 z156
  obtain ⟨rfl, Nq156, eh156⟩ := hQ156
  have N156 := Fr.app N79 Nq156
  have go157 := cr g156
  have go159 := (s_iload (s_iload (s_istore (s_goto (s_iconst (s_ifNo (s_iload (s_ifNo (s_iload (s_ifNo (s_iload (s_istore (s_iconst (s_ifYes (s_lcmp (s_ldc2 (s_lload (s_istore (s_iconst (s_ifYes (s_lcmp (s_lconst (s_lload (s_istore (s_iconst (s_ifYes (s_lcmp (s_lconst (s_lload (s_istore go157 X156 hx (H at_165) (L' := #[vj q1, .second, vj q2, .second, vj q3, .second, vj q4, .second, vj q5, .second, vi p6, vj w1, .second, vj z1, .second, vj w2, .second, vj z2, .second, vj w3, .second, vj z3, .second, vj (q4 &&& 9223372036854775807), .second, vj (q5 &&& 9223372036854775807), .second, vj fr, .second, vj to, .second, vj 3, .second, vr b26, vr b32, vr b39, vi (f28_3 fr to w1 w2 w3 z1 z2 z3), .unset, .unset, .unset, .unset]) rfl) X156 hx (H at_167) rfl) X156 hx (H at_169) (v := 0) rfl) X156 hx (H at_170)) X156 hx (H at_171) (pc' := 192) rfl (by decide) ((if0 _ _).trans (tlt ((lw_gt _ _).mpr (by decide : (0 : Int64) < 3))).2.2.1)) X156 hx (H at_192) (v := 0) rfl) X156 hx (H at_193) (L' := #[vj q1, .second, vj q2, .second, vj q3, .second, vj q4, .second, vj q5, .second, vi p6, vj w1, .second, vj z1, .second, vj w2, .second, vj z2, .second, vj w3, .second, vj z3, .second, vj (q4 &&& 9223372036854775807), .second, vj (q5 &&& 9223372036854775807), .second, vj fr, .second, vj to, .second, vj 3, .second, vr b26, vr b32, vr b39, vi (f28_3 fr to w1 w2 w3 z1 z2 z3), vi 0, .unset, .unset, .unset]) rfl) X156 hx (H at_195) rfl) X156 hx (H at_197) (v := 1) rfl) X156 hx (H at_198)) X156 hx (H at_199) (pc' := 220) rfl (by decide) ((if0 _ _).trans (tlt ((lw_gt _ _).mpr (by decide : (1 : Int64) < 3))).2.2.1)) X156 hx (H at_220) (v := 0) rfl) X156 hx (H at_221) (L' := #[vj q1, .second, vj q2, .second, vj q3, .second, vj q4, .second, vj q5, .second, vi p6, vj w1, .second, vj z1, .second, vj w2, .second, vj z2, .second, vj w3, .second, vj z3, .second, vj (q4 &&& 9223372036854775807), .second, vj (q5 &&& 9223372036854775807), .second, vj fr, .second, vj to, .second, vj 3, .second, vr b26, vr b32, vr b39, vi (f28_3 fr to w1 w2 w3 z1 z2 z3), vi 0, vi 0, .unset, .unset]) rfl) X156 hx (H at_223) rfl) X156 hx hown (mvT hZ (own_w hw 274 rfl)) (H at_225)) X156 hx (H at_228)) X156 hx (H at_229) (pc' := 250) rfl (by decide) ((if0 _ _).trans (tlt ((lw_gt _ _).mpr (by decide : (2 : Int64) < 3))).2.2.1)) X156 hx (H at_250) (v := 0) rfl) X156 hx (H at_251) (L' := #[vj q1, .second, vj q2, .second, vj q3, .second, vj q4, .second, vj q5, .second, vi p6, vj w1, .second, vj z1, .second, vj w2, .second, vj z2, .second, vj w3, .second, vj z3, .second, vj (q4 &&& 9223372036854775807), .second, vj (q5 &&& 9223372036854775807), .second, vj fr, .second, vj to, .second, vj 3, .second, vr b26, vr b32, vr b39, vi (f28_3 fr to w1 w2 w3 z1 z2 z3), vi 0, vi 0, vi 0, .unset]) rfl) X156 hx (H at_253) rfl) X156 hx (H at_255) ((if0 _ _).trans (teq (by decide : (0 : Int32) = 0)).2)) X156 hx (H at_258) rfl) X156 hx (H at_260) ((if0 _ _).trans (teq (by decide : (0 : Int32) = 0)).2)) X156 hx (H at_263) rfl) X156 hx (H at_265) ((if0 _ _).trans (teq (by decide : (0 : Int32) = 0)).2)) X156 hx (H at_268) (v := 1) rfl) X156 hx (H at_269) (pc' := 273) rfl (by decide)) X156 hx (H at_273) (L' := #[vj q1, .second, vj q2, .second, vj q3, .second, vj q4, .second, vj q5, .second, vi p6, vj w1, .second, vj z1, .second, vj w2, .second, vj z2, .second, vj w3, .second, vj z3, .second, vj (q4 &&& 9223372036854775807), .second, vj (q5 &&& 9223372036854775807), .second, vj fr, .second, vj to, .second, vj 3, .second, vr b26, vr b32, vr b39, vi (f28_3 fr to w1 w2 w3 z1 z2 z3), vi 0, vi 0, vi 0, vi 1]) rfl) X156 hx (H at_275) rfl) X156 hx (H at_277) rfl)
  have hd158 : (f28_3 fr to w1 w2 w3 z1 z2 z3) = 1 := own_law_3 fr to w1 w2 w3 z1 z2 z3
  have go160 := (s_aload (s_icmpNo go159 X156 hx (H at_279) (teq hd158).2) X156 hx (H at_282) rfl rfl)
  obtain ⟨cq161, kq161, qa161, qb161, qc161⟩ := isOf hZ eh156 (E0_79)
  obtain ⟨_, _, ⟨T161, L161, k161, n161⟩, -, X161, ⟨Lc161, hQ161, l161, y161, z161⟩, g161⟩ := c_b go160 (X156.virtualBack hx (y := y_27) (z := y_27) hown (mvT hZ (own_w hw 279 rfl)) (mvT hZ (own_w hw 280 rfl)) (notFace_of_selects (args := #[]) (mvT hZ (own_w hw 282 rfl))) (mvT hZ (own_w hw 282 rfl)) (mvT hZ (own_w hw 281 rfl)) (by decide) (backOf (W := 0) (rm30 l Z a0 hw [] b39 (T79.heap) n0 Z79 Fv_79) hZ (own_w hw 283 rfl) (own_w hw 12 rfl) (by decide) (by decide)) qa161 qc161 (g := mkF m _ _ _) rfl (by rw [hml]; rfl) (Steps.refl _) (argsL := []) (rest := []) (lenOf pd0_5 rfl) rfl (by show 2 * 0 + _ ≤ _; exact Nat.le_of_eq rfl) (H at_284) (fun _ _ => ⟨rfl, eh156, (by decide : 69 + 0 ≤ _), (by decide : 557 + 0 ≤ _)⟩))
  dsimp only [Pt.U, Pt.locs, Pt.cells, Pt.slots] at X161 l161 y161 z161 g161 hQ161
  subst l161 y161 z161
  obtain ⟨rfl, Nq161, eh161⟩ := hQ161
  have N161 := Fr.app N156 Nq161
  have go162 := cr g161
  have go163 := (s_goto (s_iconst (s_ifNo (s_lcmp (s_ldc2 go162 X161 hx hown (mvT hZ (own_w hw 284 rfl)) (H at_287)) X161 hx (H at_290)) X161 hx (H at_291) ((if0 _ _).trans (teq ((lw_eq _ _).mpr (by decide : (3 : Int64) = 3))).2)) X161 hx (H at_294) (v := 1) rfl) X161 hx (H at_295) (pc' := 299) rfl (by decide))
  refine own_fZ (Q := Q0 Z a0 q1 q2 q3 q4 q5 p6 h0 n0) Bd.notSynchronized hx Bd.returns pre0 X161 go163 (H at_299) eh161 (by decide) (by decide) (zz := (1 : Int32)) rfl ?_
  exact ⟨rfl, N161⟩

set_option maxRecDepth 65536 in
set_option maxHeartbeats 40000000 in
theorem comes_1 {Post : Tables → Env → Array Value → State → Outcome → State → Prop} (hpost : ∀ tb e args s v u, (limb_1_1.after args s (.returned v) u = true ∧ limb_1_2.after args s (.returned v) u = true ∧ True) → FrameEnd s (.returned v) u (Jvm.fieldLocs frame_1_writes args s ++ Jvm.arrayLocs frame_1_arrays args s ++ Jvm.staticLocs frame_1_statics s) 104 1024 → Post tb e args s (.returned v) u) :
    ArmFor flags0 classFile x code maxLocals ret World_1 tables_1 room_1 Calls_1 rest_1 Pre_1 Post := by
  intro l hfl _ _ p e ha hc hk s m args below hf hA hF happ hP
  obtain ⟨hcalls, hrest, hpre⟩ := hP
  obtain ⟨-, -, -, hnamed, -, -, -, hat⟩ := (Spec.applies_iff hf).mp happ
  obtain ⟨hg, hn⟩ := and_e (Cond.before_iff.mp (show (Jvm.Cond.and given_1 narrow_1).before args s = true from hpre))
  obtain ⟨g1, g2⟩ := and_e hg
  obtain ⟨g3, g4⟩ := and_e g2
  obtain ⟨g5, g6⟩ := and_e g4
  obtain ⟨g7, g8⟩ := and_e g6
  obtain ⟨g9, g10⟩ := and_e g8
  obtain ⟨g11, g12⟩ := and_e g10
  obtain ⟨w0, w1, w2, w3, w4, w5, rfl⟩ : ∃ w0 w1 w2 w3 w4 w5 : Value, args = #[w0, w1, w2, w3, w4, w5] := by
    have hs : args.size = 6 := by simpa [Cond.value, given_1] using g1
    obtain ⟨L⟩ := args
    match L, hs with
    | [w0, w1, w2, w3, w4, w5], _ => exact ⟨w0, w1, w2, w3, w4, w5, rfl⟩
  have hw := fun d (hd : d ∈ tables_1) => atoms_spec (ws := Jvm.Cond.code x code maxLocals ret :: tables_1) hat d (List.mem_cons_of_mem _ hd)
  have hfit : Fit s := fun {y c} hc i hi => by
    obtain ⟨ha, rfl⟩ := Array.getElem?_eq_some_iff.mp hc
    have q := List.all_eq_true.mp ((Array.all_eq_true_iff_forall_mem.mp hF) _ (Array.getElem_mem ha)) i (List.mem_range.mpr hi)
    simpa [Array.getElem?_eq_getElem hi] using q
  obtain ⟨i0, ei0⟩ := isL_v g3
  obtain rfl : w0 = (.long i0) := Option.some.inj ei0
  obtain ⟨i1, ei1⟩ := isL_v g5
  obtain rfl : w1 = (.long i1) := Option.some.inj ei1
  obtain ⟨i2, ei2⟩ := isL_v g7
  obtain rfl : w2 = (.long i2) := Option.some.inj ei2
  obtain ⟨i3, ei3⟩ := isL_v g9
  obtain rfl : w3 = (.long i3) := Option.some.inj ei3
  obtain ⟨i4, ei4⟩ := isL_v g11
  obtain rfl : w4 = (.long i4) := Option.some.inj ei4
  obtain ⟨i5, ei5⟩ := is_v g12
  obtain rfl : w5 = (.int i5) := Option.some.inj ei5
  obtain ⟨n, o, h1, h2, h3, _, L, rfl, ⟨rfl, N⟩, hq⟩ := rm0 l s _ hw tables_1 i0 i1 i2 i3 i4 i5  s.heap s.heap.size (Nat.le_refl _)  p e ha hc hk s m _ below hf ((Spec.applies_iff_loose hf).mp happ).1 ⟨rfl, State.Warmed39.refl s, rfl⟩ trivial
  refine ⟨n, _, h1, h2, h3, hpost _ _ _ _ _ _ ⟨Cond.after_iff.mpr rfl, Cond.after_iff.mpr (eq_i res_at (Term.int_eval (1)) rfl), trivial⟩ ⟨hq.1, hq.2.1, (hq.2.2.sift fun y hy => Or.inr (N y hy)).mono (by decide) (by decide)⟩⟩
theorem main_1_1 : Claimed_1_1 := comes_1 fun _ _ _ _ _ _ h hF => ⟨h.1, hF⟩
theorem main_1_2 : Claimed_1_2 := comes_1 fun _ _ _ _ _ _ h hF => ⟨h.2.1, hF⟩
end Jvm.Pilot.@@N@@
namespace Jvm.Pilot.@@N@@
open Jvm Jvm.ClassFile Sem Op Lib Jvm.Free Jvm.Stand Jvm.Pilot.@@N@@.Jvm.D
/-! MADE BY PROGRAM (witnessworld.py) out of the Statement's table words and the real class files: 27 classes; the members and pool entries that the words name. The judged class is class 1, her method 1. -/
namespace start1
open Jvm.ClassFile
def u (s : String) : CpInfo := .utf8 (stringToUtf16 s)
/-- a pool by its gaps: so many unusable entries, then the entry; so many at the end -/
def gap : Nat → List CpInfo → List CpInfo
  | 0, r => r
  | n + 1, r => .unusable :: gap n r
def poolList (es : List (Nat × CpInfo)) (last : Nat) : List CpInfo := es.foldr (fun e r => gap e.1 (e.2 :: r)) (gap last [])
def pool (es : List (Nat × CpInfo)) (last : Nat) : Array CpInfo := ⟨poolList es last⟩
def fileOf (pool : Array CpInfo) (this : Nat) (attrs : Array Attribute := #[]) (ms : Array MethodInfo := #[]) (fl : Nat := 33) (sup : Nat := 0) (ifs : Array Nat := #[]) (fds : Array FieldInfo := #[]) : ClassFile where
  minorVersion := 0
  majorVersion := 65
  constantPool := pool
  accessFlags := fl
  thisClass := this
  superClass := sup
  interfaces := ifs
  fields := fds
  methods := ms
  attributes := attrs
def plain (name : String) (sup : Option ClassId) : Class where
  name := name
  kind := .ordinary
  loader := none
  accessFlags := 33
  super := sup
  interfaces := #[]
  cf := none
  fields := #[]
  methods := #[]
  instanceTypes := #[]
  staticTypes := #[]
  resolved := #[]
  callSites := []
  init := .initialized
  statics := none
  mirror := none

def pool0 : Array CpInfo := pool [(5, u "<init>"), (0, u "()V"), (1, .class_ 10), (1, u "java/lang/Object"), (85, u "clone"), (0, u "()Ljava/lang/Object;")] 26

def k0c0 : Code := { maxStack := 0, maxLocals := 1, code := object_method_1_code, exceptionTable := #[], attributes := #[] }
def k0m0 : Method := { name := "<init>", desc := "()V", sig := { parameters := [], returnType := none }, accessFlags := 1, code := some k0c0 }
def k0m1 : Method := { name := "clone", desc := "()Ljava/lang/Object;", sig := { parameters := [], returnType := some (.object "java/lang/Object") }, accessFlags := 260, code := none }
/-- java/lang/Object -/
def k0 : Class := { plain "java/lang/Object" none with
  accessFlags := 33
  interfaces := #[]
  cf := some (fileOf pool0 8 #[] #[{ accessFlags := 1, nameIndex := 5, descriptorIndex := 6, attributes := #[] }, { accessFlags := 260, nameIndex := 96, descriptorIndex := 97, attributes := #[] }] 33 0 #[] #[])
  fields := #[]
  methods := #[k0m0, k0m1]
  instanceTypes := #[]
  staticTypes := #[]
  resolved := Array.replicate 124 none
  statics := none }

def pool1 : Array CpInfo := pool [(2, .class_ 4), (1, u "java/lang/Object"), (0, u "<init>"), (0, u "()V"), (0, .long 4294967295), (3, .long 9223372036854775807), (1, .methodref 14 15), (0, .class_ 16), (0, .nameAndType 17 18), (0, u "java/lang/Math"), (0, u "min"), (0, u "(JJ)J"), (0, .methodref 14 20), (0, .nameAndType 21 18), (0, u "max"), (0, .class_ 23), (0, u "com/example/slackline/slackline/replay/Plan"), (0, .methodref 22 25), (0, .nameAndType 5 26), (0, u "([II)V"), (0, .methodref 22 28), (0, .nameAndType 29 30), (0, u "reserve"), (0, u "(JJ[I)V"), (0, .methodref 22 32), (0, .nameAndType 33 34), (0, u "untouchedSince"), (0, u "(JJJ)Z"), (0, .methodref 36 37), (0, .class_ 38), (0, .nameAndType 39 40), (0, u "com/example/slackline/slackline/replay/PlanUntouchedSincePinLaw"), (0, u "shares"), (0, u "(JJJJ)Z"), (0, .long 2), (1, .methodref 22 44), (0, .nameAndType 45 46), (0, u "version"), (0, u "()J"), (0, .long 3), (3, u "law"), (0, u "(JJJJJI)Z")] 5

def k1m0 : Method := { name := "<init>", desc := "()V", sig := { parameters := [], returnType := none }, accessFlags := 1, code := none }
def k1c1 : Code := { maxStack := 8, maxLocals := 41, code := code, exceptionTable := #[], attributes := #[] }
def k1m1 : Method := { name := "law", desc := "(JJJJJI)Z", sig := { parameters := [.long, .long, .long, .long, .long, .int], returnType := some .boolean }, accessFlags := 9, code := some k1c1 }
def k1c2 : Code := { maxStack := 4, maxLocals := 8, code := method_3_code, exceptionTable := #[], attributes := #[] }
def k1m2 : Method := { name := "shares", desc := "(JJJJ)Z", sig := { parameters := [.long, .long, .long, .long], returnType := some .boolean }, accessFlags := 10, code := some k1c2 }
/-- com/example/slackline/slackline/replay/PlanUntouchedSincePinLaw -/
def k1 : Class := { plain "com/example/slackline/slackline/replay/PlanUntouchedSincePinLaw" (some 0) with
  accessFlags := 49
  interfaces := #[]
  cf := some (fileOf pool1 36 #[] #[{ accessFlags := 1, nameIndex := 5, descriptorIndex := 6, attributes := #[] }, { accessFlags := 9, nameIndex := 51, descriptorIndex := 52, attributes := #[] }, { accessFlags := 10, nameIndex := 39, descriptorIndex := 40, attributes := #[] }] 49 2 #[] #[])
  fields := #[]
  methods := #[k1m0, k1m1, k1m2]
  instanceTypes := #[]
  staticTypes := #[]
  resolved := Array.replicate 58 none
  statics := none }

def pool2 : Array CpInfo := pool [(1, .class_ 2), (0, u "java/lang/Math"), (1, .class_ 6), (1, u "java/lang/Object"), (0, u "<init>"), (0, u "()V"), (89, .class_ 100), (1, u "java/lang/Math$RandomNumberGeneratorHolder"), (20, u "(JJ)J"), (50, u "negativeZeroFloatBits"), (0, u "J"), (2, u "negativeZeroDoubleBits"), (21, u "max"), (2, u "min"), (43, u "$assertionsDisabled"), (0, u "Z"), (88, u "(II)I"), (2, u "twoToTheDoubleScaleDown"), (0, u "D"), (4, u "twoToTheDoubleScaleUp"), (9, u "E"), (3, u "PI"), (2, u "TAU"), (2, u "DEGREES_TO_RADIANS"), (0, u "RADIANS_TO_DEGREES")] 94

def k2m0 : Method := { name := "<init>", desc := "()V", sig := { parameters := [], returnType := none }, accessFlags := 2, code := none }
def k2c1 : Code := { maxStack := 2, maxLocals := 2, code := jdk_29_method_65_code, exceptionTable := #[], attributes := #[] }
def k2m1 : Method := { name := "max", desc := "(II)I", sig := { parameters := [.int, .int], returnType := some .int }, accessFlags := 9, code := some k2c1 }
def k2c2 : Code := { maxStack := 4, maxLocals := 4, code := jdk_29_method_66_code, exceptionTable := #[], attributes := #[] }
def k2m2 : Method := { name := "max", desc := "(JJ)J", sig := { parameters := [.long, .long], returnType := some .long }, accessFlags := 9, code := some k2c2 }
def k2c3 : Code := { maxStack := 4, maxLocals := 4, code := jdk_29_method_70_code, exceptionTable := #[], attributes := #[] }
def k2m3 : Method := { name := "min", desc := "(JJ)J", sig := { parameters := [.long, .long], returnType := some .long }, accessFlags := 9, code := some k2c3 }
/-- java/lang/Math -/
def k2 : Class := { plain "java/lang/Math" (some 0) with
  accessFlags := 49
  interfaces := #[]
  cf := some (fileOf pool2 1 #[.nestMembers #[98]] #[{ accessFlags := 2, nameIndex := 7, descriptorIndex := 8, attributes := #[] }, { accessFlags := 9, nameIndex := 198, descriptorIndex := 335, attributes := #[] }, { accessFlags := 9, nameIndex := 198, descriptorIndex := 121, attributes := #[] }, { accessFlags := 9, nameIndex := 201, descriptorIndex := 121, attributes := #[] }] 49 4 #[] #[{ accessFlags := 25, nameIndex := 354, descriptorIndex := 339, attributes := #[] }, { accessFlags := 25, nameIndex := 358, descriptorIndex := 339, attributes := #[] }, { accessFlags := 25, nameIndex := 361, descriptorIndex := 339, attributes := #[] }, { accessFlags := 26, nameIndex := 364, descriptorIndex := 339, attributes := #[] }, { accessFlags := 26, nameIndex := 365, descriptorIndex := 339, attributes := #[] }, { accessFlags := 26, nameIndex := 172, descriptorIndex := 173, attributes := #[] }, { accessFlags := 26, nameIndex := 176, descriptorIndex := 173, attributes := #[] }, { accessFlags := 8, nameIndex := 344, descriptorIndex := 339, attributes := #[] }, { accessFlags := 8, nameIndex := 338, descriptorIndex := 339, attributes := #[] }, { accessFlags := 4120, nameIndex := 245, descriptorIndex := 246, attributes := #[] }])
  fields := #[{ name := "E", type := .double, accessFlags := 25, slot := 0, constantValue := 0 }, { name := "PI", type := .double, accessFlags := 25, slot := 1, constantValue := 0 }, { name := "TAU", type := .double, accessFlags := 25, slot := 2, constantValue := 0 }, { name := "DEGREES_TO_RADIANS", type := .double, accessFlags := 26, slot := 3, constantValue := 0 }, { name := "RADIANS_TO_DEGREES", type := .double, accessFlags := 26, slot := 4, constantValue := 0 }, { name := "negativeZeroFloatBits", type := .long, accessFlags := 26, slot := 5, constantValue := 0 }, { name := "negativeZeroDoubleBits", type := .long, accessFlags := 26, slot := 6, constantValue := 0 }, { name := "twoToTheDoubleScaleUp", type := .double, accessFlags := 8, slot := 7, constantValue := 0 }, { name := "twoToTheDoubleScaleDown", type := .double, accessFlags := 8, slot := 8, constantValue := 0 }, { name := "$assertionsDisabled", type := .boolean, accessFlags := 4120, slot := 9, constantValue := 0 }]
  methods := #[k2m0, k2m1, k2m2, k2m3]
  instanceTypes := #[]
  staticTypes := #[.double, .double, .double, .double, .double, .long, .long, .double, .double, .boolean]
  resolved := Array.replicate 460 none
  statics := none }

def pool3 : Array CpInfo := pool [(1, .class_ 2), (0, u "com/example/slackline/slackline/replay/Steps"), (1, .class_ 6), (0, .nameAndType 7 8), (0, u "com/example/slackline/slackline/replay/Plan"), (0, u "<init>"), (0, u "([II)V"), (0, .methodref 10 11), (0, .class_ 12), (0, .nameAndType 7 13), (0, u "java/lang/Object"), (0, u "()V"), (0, .fieldref 4 15), (0, .nameAndType 16 17), (0, u "touchedFrom"), (0, u "[J"), (0, .fieldref 4 19), (0, .nameAndType 20 17), (0, u "touchedTo"), (0, .fieldref 4 22), (0, .nameAndType 23 17), (0, u "oneStretch"), (11, .methodref 36 37), (0, .class_ 38), (0, .nameAndType 39 40), (0, u "[I"), (0, u "clone"), (0, u "()Ljava/lang/Object;"), (0, .fieldref 4 42), (0, .nameAndType 43 38), (0, u "capacity"), (0, .fieldref 4 45), (0, .nameAndType 46 47), (0, u "kinds"), (0, u "I"), (0, .methodref 1 5), (0, .fieldref 4 50), (0, .nameAndType 51 52), (0, u "steps"), (0, u "Lcom/example/slackline/slackline/replay/Steps;"), (0, .class_ 54), (0, u "com/example/slackline/slackline/replay/DraftSteps"), (0, .methodref 53 56), (0, .nameAndType 7 57), (0, u "(I)V"), (0, .fieldref 4 59), (0, .nameAndType 60 61), (0, u "noChanges"), (0, u "Lcom/example/slackline/slackline/replay/DraftSteps;"), (0, .class_ 63), (0, u "com/example/slackline/slackline/replay/Plan$Walk"), (0, .methodref 62 65), (0, .nameAndType 7 66), (0, u "(Lcom/example/slackline/slackline/replay/Plan;)V"), (0, .fieldref 4 68), (0, .nameAndType 69 70), (0, u "walk"), (0, u "Lcom/example/slackline/slackline/replay/Plan$Walk;"), (0, .fieldref 4 72), (0, .nameAndType 73 38), (0, u "noNeeds"), (72, u "()J"), (20, .methodref 1 168), (0, .nameAndType 169 170), (0, u "place"), (0, u "(JJ[II)V"), (0, .methodref 4 172), (0, .nameAndType 173 174), (0, u "touched"), (0, u "(JJ)V"), (9, u "(JJ[I)V"), (2, u "reserve"), (21, .class_ 211), (1, u "com/example/slackline/slackline/replay/Plan$Overloads"), (36, .fieldref 4 249), (0, .nameAndType 250 251), (0, u "version"), (0, u "J"), (0, .long 64), (4, .class_ 258), (0, u "com/example/slackline/slackline/replay/Plan$Draft"), (15, u "NO_FIT"), (1, u "REMEMBERED"), (24, u "untouchedSince"), (0, u "(JJJ)Z")] 26

def k3c0 : Code := { maxStack := 5, maxLocals := 3, code := prog_91_method_2_code, exceptionTable := #[], attributes := #[] }
def k3m0 : Method := { name := "<init>", desc := "([II)V", sig := { parameters := [(.array .int), .int], returnType := none }, accessFlags := 1, code := some k3c0 }
def k3c1 : Code := { maxStack := 7, maxLocals := 6, code := prog_91_method_15_code, exceptionTable := #[], attributes := #[] }
def k3m1 : Method := { name := "reserve", desc := "(JJ[I)V", sig := { parameters := [.long, .long, (.array .int)], returnType := none }, accessFlags := 1, code := some k3c1 }
def k3c2 : Code := { maxStack := 2, maxLocals := 1, code := prog_91_method_28_code, exceptionTable := #[], attributes := #[] }
def k3m2 : Method := { name := "version", desc := "()J", sig := { parameters := [], returnType := some .long }, accessFlags := 1, code := some k3c2 }
def k3c3 : Code := { maxStack := 4, maxLocals := 10, code := prog_91_method_29_code, exceptionTable := #[], attributes := #[] }
def k3m3 : Method := { name := "untouchedSince", desc := "(JJJ)Z", sig := { parameters := [.long, .long, .long], returnType := some .boolean }, accessFlags := 1, code := some k3c3 }
def k3c4 : Code := { maxStack := 5, maxLocals := 6, code := prog_91_method_34_code, exceptionTable := #[], attributes := #[] }
def k3m4 : Method := { name := "touched", desc := "(JJ)V", sig := { parameters := [.long, .long], returnType := none }, accessFlags := 2, code := some k3c4 }
/-- com/example/slackline/slackline/replay/Plan -/
def k3 : Class := { plain "com/example/slackline/slackline/replay/Plan" (some 0) with
  accessFlags := 49
  interfaces := #[]
  cf := some (fileOf pool3 4 #[.nestMembers #[257, 209, 62]] #[{ accessFlags := 1, nameIndex := 7, descriptorIndex := 8, attributes := #[] }, { accessFlags := 1, nameIndex := 187, descriptorIndex := 184, attributes := #[] }, { accessFlags := 1, nameIndex := 250, descriptorIndex := 146, attributes := #[] }, { accessFlags := 1, nameIndex := 301, descriptorIndex := 302, attributes := #[] }, { accessFlags := 2, nameIndex := 173, descriptorIndex := 174, attributes := #[] }] 49 10 #[] #[{ accessFlags := 25, nameIndex := 274, descriptorIndex := 251, attributes := #[] }, { accessFlags := 26, nameIndex := 276, descriptorIndex := 47, attributes := #[] }, { accessFlags := 18, nameIndex := 43, descriptorIndex := 38, attributes := #[] }, { accessFlags := 18, nameIndex := 46, descriptorIndex := 47, attributes := #[] }, { accessFlags := 18, nameIndex := 51, descriptorIndex := 52, attributes := #[] }, { accessFlags := 2, nameIndex := 250, descriptorIndex := 251, attributes := #[] }, { accessFlags := 18, nameIndex := 16, descriptorIndex := 17, attributes := #[] }, { accessFlags := 18, nameIndex := 20, descriptorIndex := 17, attributes := #[] }, { accessFlags := 18, nameIndex := 69, descriptorIndex := 70, attributes := #[] }, { accessFlags := 18, nameIndex := 73, descriptorIndex := 38, attributes := #[] }, { accessFlags := 18, nameIndex := 60, descriptorIndex := 61, attributes := #[] }, { accessFlags := 18, nameIndex := 23, descriptorIndex := 17, attributes := #[] }])
  fields := #[{ name := "NO_FIT", type := .long, accessFlags := 25, slot := 0, constantValue := 0 }, { name := "REMEMBERED", type := .int, accessFlags := 26, slot := 1, constantValue := 0 }, { name := "capacity", type := (.array .int), accessFlags := 18, slot := 0, constantValue := 0 }, { name := "kinds", type := .int, accessFlags := 18, slot := 1, constantValue := 0 }, { name := "steps", type := (.object "com/example/slackline/slackline/replay/Steps"), accessFlags := 18, slot := 2, constantValue := 0 }, { name := "version", type := .long, accessFlags := 2, slot := 3, constantValue := 0 }, { name := "touchedFrom", type := (.array .long), accessFlags := 18, slot := 4, constantValue := 0 }, { name := "touchedTo", type := (.array .long), accessFlags := 18, slot := 5, constantValue := 0 }, { name := "walk", type := (.object "com/example/slackline/slackline/replay/Plan$Walk"), accessFlags := 18, slot := 6, constantValue := 0 }, { name := "noNeeds", type := (.array .int), accessFlags := 18, slot := 7, constantValue := 0 }, { name := "noChanges", type := (.object "com/example/slackline/slackline/replay/DraftSteps"), accessFlags := 18, slot := 8, constantValue := 0 }, { name := "oneStretch", type := (.array .long), accessFlags := 18, slot := 9, constantValue := 0 }]
  methods := #[k3m0, k3m1, k3m2, k3m3, k3m4]
  instanceTypes := #[(.array .int), .int, (.object "com/example/slackline/slackline/replay/Steps"), .long, (.array .long), (.array .long), (.object "com/example/slackline/slackline/replay/Plan$Walk"), (.array .int), (.object "com/example/slackline/slackline/replay/DraftSteps"), (.array .long)]
  staticTypes := #[.long, .int]
  resolved := (Array.replicate 329 none).setIfInBounds 62 (some (.cls 16)) |>.setIfInBounds 64 (some (.method ⟨16, 0⟩))
  statics := none }

def pool4 : Array CpInfo := pool [(1, .class_ 2), (0, u "java/lang/Cloneable"), (0, .class_ 4), (0, u "java/lang/Object")] 2

/-- java/lang/Cloneable -/
def k4 : Class := { plain "java/lang/Cloneable" (some 0) with
  accessFlags := 1537
  interfaces := #[]
  cf := some (fileOf pool4 1 #[] #[] 1537 3 #[] #[])
  fields := #[]
  methods := #[]
  instanceTypes := #[]
  staticTypes := #[]
  resolved := Array.replicate 7 none
  statics := none }

def pool5 : Array CpInfo := pool [(1, .class_ 2), (0, u "java/lang/Integer"), (0, .class_ 4), (0, u "com/example/slackline/slackline/replay/Steps"), (6, .fieldref 3 12), (0, .nameAndType 13 14), (0, u "chunks"), (0, u "[Lcom/example/slackline/slackline/replay/Steps$Chunk;"), (0, .fieldref 16 17), (0, .class_ 18), (0, .nameAndType 19 20), (0, u "com/example/slackline/slackline/replay/Steps$Chunk"), (0, u "peaksHigh"), (0, u "Z"), (4, .fieldref 3 26), (0, .nameAndType 27 28), (0, u "kinds"), (0, u "I"), (0, .fieldref 3 30), (0, .nameAndType 31 32), (0, u "peaks"), (0, u "[J"), (0, .fieldref 16 34), (0, .nameAndType 35 32), (0, u "inUse"), (0, .fieldref 16 37), (0, .nameAndType 38 28), (0, u "size"), (0, .methodref 40 41), (0, .class_ 42), (0, .nameAndType 43 44), (0, u "java/lang/Math"), (0, u "max"), (0, u "(JJ)J"), (0, .fieldref 16 46), (0, .nameAndType 47 32), (0, u "shared"), (0, .methodref 49 50), (0, .class_ 51), (0, .nameAndType 52 53), (0, u "java/lang/Object"), (0, u "<init>"), (0, u "()V"), (0, .long 9223372036854775807), (1, .fieldref 3 57), (0, .nameAndType 58 32), (0, u "firstTimes"), (0, .methodref 60 61), (0, .class_ 62), (0, .nameAndType 63 64), (0, u "[I"), (0, u "clone"), (0, u "()Ljava/lang/Object;"), (0, .fieldref 3 66), (0, .nameAndType 67 62), (0, u "capacity"), (0, .fieldref 3 69), (0, .nameAndType 70 62), (0, u "tops"), (0, .methodref 40 72), (0, .nameAndType 43 73), (0, u "(II)I"), (0, .methodref 1 75), (0, .nameAndType 76 77), (0, u "numberOfLeadingZeros"), (0, u "(I)I"), (0, .fieldref 3 79), (0, .nameAndType 80 28), (0, u "chunkSize"), (0, .class_ 82), (0, u "com/example/slackline/slackline/replay/Steps$Block"), (0, .methodref 81 84), (0, .nameAndType 52 85), (0, u "(Lcom/example/slackline/slackline/replay/Steps;)V"), (0, .methodref 16 87), (0, .nameAndType 52 88), (0, u "(Lcom/example/slackline/slackline/replay/Steps;Lcom/example/slackline/slackline/replay/Steps$Block;)V"), (0, .fieldref 3 90), (0, .nameAndType 91 28), (0, u "chunkCount"), (6, .methodref 3 99), (0, .nameAndType 100 101), (0, u "chunkAt"), (0, u "(J)I"), (0, .class_ 103), (0, u "com/example/slackline/slackline/replay/Steps$Cursor"), (0, .methodref 3 105), (0, .nameAndType 106 107), (0, u "stepAt"), (0, u "(Lcom/example/slackline/slackline/replay/Steps$Chunk;J)I"), (0, .methodref 102 109), (0, .nameAndType 52 110), (0, u "(Lcom/example/slackline/slackline/replay/Steps;II)V"), (0, .fieldref 16 112), (0, .nameAndType 113 32), (0, u "time"), (4, .fieldref 3 119), (0, .nameAndType 120 28), (0, u "splitChunk"), (0, .fieldref 3 122), (0, .nameAndType 123 28), (0, u "splitStep"), (0, .fieldref 16 125), (0, .nameAndType 126 127), (0, u "block"), (0, u "Lcom/example/slackline/slackline/replay/Steps$Block;"), (0, .methodref 3 129), (0, .nameAndType 130 131), (0, u "move"), (0, u "(Lcom/example/slackline/slackline/replay/Steps$Chunk;ILcom/example/slackline/slackline/replay/Steps$Chunk;II)V"), (0, .methodref 3 133), (0, .nameAndType 134 135), (0, u "changed"), (0, u "(Lcom/example/slackline/slackline/replay/Steps$Chunk;)V"), (0, .methodref 3 137), (0, .nameAndType 138 139), (0, u "addChunk"), (0, u "(ILcom/example/slackline/slackline/replay/Steps$Chunk;)V"), (0, .methodref 141 142), (0, .class_ 143), (0, .nameAndType 144 145), (0, u "java/lang/System"), (0, u "arraycopy"), (0, u "(Ljava/lang/Object;ILjava/lang/Object;II)V"), (0, .fieldref 81 147), (0, .nameAndType 148 28), (0, u "count"), (3, .fieldref 16 153), (0, .nameAndType 154 62), (0, u "finishing"), (2, u "floor"), (0, u "(J)Lcom/example/slackline/slackline/replay/Steps$Cursor;"), (36, .methodref 3 196), (0, .nameAndType 197 198), (0, u "split"), (0, u "(J)V"), (0, .methodref 3 200), (0, .nameAndType 201 202), (0, u "addBefore"), (0, u "(IIJ[II)V"), (0, .methodref 3 204), (0, .nameAndType 205 206), (0, u "finishingAt"), (0, u "(JI)V"), (0, .methodref 3 208), (0, .nameAndType 209 107), (0, u "stepsBefore"), (0, .methodref 3 211), (0, .nameAndType 212 213), (0, u "addUnits"), (0, u "(III[II)V"), (0, .methodref 3 215), (0, .nameAndType 216 217), (0, u "lastAtOrBefore"), (0, u "([JIJ)I"), (2, u "searches"), (0, u "J"), (19, u "passedRun"), (12, .class_ 256), (1, u "com/example/slackline/slackline/replay/Steps$FreeRuns"), (10, .nameAndType 268 221), (0, u "version"), (0, .fieldref 16 267), (11, .fieldref 81 267), (8, .fieldref 3 291), (0, .nameAndType 292 28), (0, u "lastFloor"), (14, u "CHUNK"), (2, u "LAST_STEP_HOLDS_UNITS"), (0, u "Ljava/lang/String;"), (0, u "BLOCK"), (1, u "LEVELS"), (1, u "FREE_RUNS_BYTES"), (1, u "BLOCKED"), (1, u "LAST_RUN"), (1, u "LONGEST"), (1, u "NONE"), (0, u "PASSED"), (0, u "RUN_FOUND"), (0, u "STEPS_ASKED"), (4, u "([II)V"), (14, u "place"), (0, u "(JJ[II)V")] 14

def k5c0 : Code := { maxStack := 6, maxLocals := 4, code := prog_99_method_4_code, exceptionTable := #[], attributes := #[] }
def k5m0 : Method := { name := "<init>", desc := "([II)V", sig := { parameters := [(.array .int), .int], returnType := none }, accessFlags := 0, code := some k5c0 }
def k5c1 : Code := { maxStack := 7, maxLocals := 4, code := prog_99_method_6_code, exceptionTable := #[], attributes := #[] }
def k5m1 : Method := { name := "floor", desc := "(J)Lcom/example/slackline/slackline/replay/Steps$Cursor;", sig := { parameters := [.long], returnType := some (.object "com/example/slackline/slackline/replay/Steps$Cursor") }, accessFlags := 0, code := some k5c1 }
def k5c2 : Code := { maxStack := 7, maxLocals := 8, code := prog_99_method_13_code, exceptionTable := #[], attributes := #[] }
def k5m2 : Method := { name := "split", desc := "(J)V", sig := { parameters := [.long], returnType := none }, accessFlags := 0, code := some k5c2 }
def k5c3 : Code := { maxStack := 7, maxLocals := 7, code := prog_99_method_18_code, exceptionTable := #[], attributes := #[] }
def k5m3 : Method := { name := "place", desc := "(JJ[II)V", sig := { parameters := [.long, .long, (.array .int), .int], returnType := none }, accessFlags := 0, code := some k5c3 }
def k5c4 : Code := { maxStack := 6, maxLocals := 10, code := prog_99_method_20_code, exceptionTable := #[], attributes := #[] }
def k5m4 : Method := { name := "addBefore", desc := "(IIJ[II)V", sig := { parameters := [.int, .int, .long, (.array .int), .int], returnType := none }, accessFlags := 2, code := some k5c4 }
def k5c5 : Code := { maxStack := 6, maxLocals := 3, code := prog_99_method_21_code, exceptionTable := #[], attributes := #[] }
def k5m5 : Method := { name := "stepsBefore", desc := "(Lcom/example/slackline/slackline/replay/Steps$Chunk;J)I", sig := { parameters := [(.object "com/example/slackline/slackline/replay/Steps$Chunk"), .long], returnType := some .int }, accessFlags := 10, code := some k5c5 }
def k5c6 : Code := { maxStack := 4, maxLocals := 5, code := prog_99_method_22_code, exceptionTable := #[], attributes := #[] }
def k5m6 : Method := { name := "finishingAt", desc := "(JI)V", sig := { parameters := [.long, .int], returnType := none }, accessFlags := 0, code := some k5c6 }
def k5c7 : Code := { maxStack := 8, maxLocals := 16, code := prog_99_method_33_code, exceptionTable := #[], attributes := #[] }
def k5m7 : Method := { name := "addUnits", desc := "(III[II)V", sig := { parameters := [.int, .int, .int, (.array .int), .int], returnType := none }, accessFlags := 2, code := some k5c7 }
def k5c8 : Code := { maxStack := 4, maxLocals := 5, code := prog_99_method_34_code, exceptionTable := #[], attributes := #[] }
def k5m8 : Method := { name := "chunkAt", desc := "(J)I", sig := { parameters := [.long], returnType := some .int }, accessFlags := 2, code := some k5c8 }
def k5c9 : Code := { maxStack := 4, maxLocals := 3, code := prog_99_method_35_code, exceptionTable := #[], attributes := #[] }
def k5m9 : Method := { name := "stepAt", desc := "(Lcom/example/slackline/slackline/replay/Steps$Chunk;J)I", sig := { parameters := [(.object "com/example/slackline/slackline/replay/Steps$Chunk"), .long], returnType := some .int }, accessFlags := 10, code := some k5c9 }
def k5c10 : Code := { maxStack := 4, maxLocals := 7, code := prog_99_method_36_code, exceptionTable := #[], attributes := #[] }
def k5m10 : Method := { name := "lastAtOrBefore", desc := "([JIJ)I", sig := { parameters := [(.array .long), .int, .long], returnType := some .int }, accessFlags := 8, code := some k5c10 }
def k5c11 : Code := { maxStack := 6, maxLocals := 3, code := prog_99_method_37_code, exceptionTable := #[], attributes := #[] }
def k5m11 : Method := { name := "addChunk", desc := "(ILcom/example/slackline/slackline/replay/Steps$Chunk;)V", sig := { parameters := [.int, (.object "com/example/slackline/slackline/replay/Steps$Chunk")], returnType := none }, accessFlags := 2, code := some k5c11 }
def k5c12 : Code := { maxStack := 5, maxLocals := 1, code := prog_99_method_38_code, exceptionTable := #[], attributes := #[] }
def k5m12 : Method := { name := "changed", desc := "(Lcom/example/slackline/slackline/replay/Steps$Chunk;)V", sig := { parameters := [(.object "com/example/slackline/slackline/replay/Steps$Chunk")], returnType := none }, accessFlags := 10, code := some k5c12 }
def k5c13 : Code := { maxStack := 6, maxLocals := 6, code := prog_99_method_42_code, exceptionTable := #[], attributes := #[] }
def k5m13 : Method := { name := "move", desc := "(Lcom/example/slackline/slackline/replay/Steps$Chunk;ILcom/example/slackline/slackline/replay/Steps$Chunk;II)V", sig := { parameters := [(.object "com/example/slackline/slackline/replay/Steps$Chunk"), .int, (.object "com/example/slackline/slackline/replay/Steps$Chunk"), .int, .int], returnType := none }, accessFlags := 2, code := some k5c13 }
/-- com/example/slackline/slackline/replay/Steps -/
def k5 : Class := { plain "com/example/slackline/slackline/replay/Steps" (some 0) with
  accessFlags := 48
  interfaces := #[]
  cf := some (fileOf pool5 3 #[.nestMembers #[102, 254, 81, 16]] #[{ accessFlags := 0, nameIndex := 52, descriptorIndex := 332, attributes := #[] }, { accessFlags := 0, nameIndex := 157, descriptorIndex := 158, attributes := #[] }, { accessFlags := 0, nameIndex := 197, descriptorIndex := 198, attributes := #[] }, { accessFlags := 0, nameIndex := 347, descriptorIndex := 348, attributes := #[] }, { accessFlags := 2, nameIndex := 201, descriptorIndex := 202, attributes := #[] }, { accessFlags := 10, nameIndex := 209, descriptorIndex := 107, attributes := #[] }, { accessFlags := 0, nameIndex := 205, descriptorIndex := 206, attributes := #[] }, { accessFlags := 2, nameIndex := 212, descriptorIndex := 213, attributes := #[] }, { accessFlags := 2, nameIndex := 100, descriptorIndex := 101, attributes := #[] }, { accessFlags := 10, nameIndex := 106, descriptorIndex := 107, attributes := #[] }, { accessFlags := 8, nameIndex := 216, descriptorIndex := 217, attributes := #[] }, { accessFlags := 2, nameIndex := 138, descriptorIndex := 139, attributes := #[] }, { accessFlags := 10, nameIndex := 134, descriptorIndex := 135, attributes := #[] }, { accessFlags := 2, nameIndex := 130, descriptorIndex := 131, attributes := #[] }] 48 49 #[] #[{ accessFlags := 24, nameIndex := 307, descriptorIndex := 28, attributes := #[] }, { accessFlags := 24, nameIndex := 310, descriptorIndex := 311, attributes := #[] }, { accessFlags := 26, nameIndex := 312, descriptorIndex := 28, attributes := #[] }, { accessFlags := 26, nameIndex := 314, descriptorIndex := 28, attributes := #[] }, { accessFlags := 26, nameIndex := 316, descriptorIndex := 28, attributes := #[] }, { accessFlags := 26, nameIndex := 318, descriptorIndex := 28, attributes := #[] }, { accessFlags := 26, nameIndex := 320, descriptorIndex := 28, attributes := #[] }, { accessFlags := 26, nameIndex := 322, descriptorIndex := 28, attributes := #[] }, { accessFlags := 26, nameIndex := 324, descriptorIndex := 221, attributes := #[] }, { accessFlags := 26, nameIndex := 325, descriptorIndex := 28, attributes := #[] }, { accessFlags := 26, nameIndex := 326, descriptorIndex := 28, attributes := #[] }, { accessFlags := 26, nameIndex := 327, descriptorIndex := 28, attributes := #[] }, { accessFlags := 18, nameIndex := 67, descriptorIndex := 62, attributes := #[] }, { accessFlags := 18, nameIndex := 70, descriptorIndex := 62, attributes := #[] }, { accessFlags := 18, nameIndex := 80, descriptorIndex := 28, attributes := #[] }, { accessFlags := 18, nameIndex := 27, descriptorIndex := 28, attributes := #[] }, { accessFlags := 2, nameIndex := 13, descriptorIndex := 14, attributes := #[] }, { accessFlags := 2, nameIndex := 91, descriptorIndex := 28, attributes := #[] }, { accessFlags := 2, nameIndex := 58, descriptorIndex := 32, attributes := #[] }, { accessFlags := 2, nameIndex := 31, descriptorIndex := 32, attributes := #[] }, { accessFlags := 2, nameIndex := 292, descriptorIndex := 28, attributes := #[] }, { accessFlags := 2, nameIndex := 241, descriptorIndex := 221, attributes := #[] }, { accessFlags := 2, nameIndex := 120, descriptorIndex := 28, attributes := #[] }, { accessFlags := 2, nameIndex := 123, descriptorIndex := 28, attributes := #[] }, { accessFlags := 2, nameIndex := 220, descriptorIndex := 221, attributes := #[] }])
  fields := #[{ name := "CHUNK", type := .int, accessFlags := 24, slot := 0, constantValue := 0 }, { name := "LAST_STEP_HOLDS_UNITS", type := (.object "java/lang/String"), accessFlags := 24, slot := 1, constantValue := 0 }, { name := "BLOCK", type := .int, accessFlags := 26, slot := 2, constantValue := 0 }, { name := "LEVELS", type := .int, accessFlags := 26, slot := 3, constantValue := 0 }, { name := "FREE_RUNS_BYTES", type := .int, accessFlags := 26, slot := 4, constantValue := 0 }, { name := "BLOCKED", type := .int, accessFlags := 26, slot := 5, constantValue := 0 }, { name := "LAST_RUN", type := .int, accessFlags := 26, slot := 6, constantValue := 0 }, { name := "LONGEST", type := .int, accessFlags := 26, slot := 7, constantValue := 0 }, { name := "NONE", type := .long, accessFlags := 26, slot := 8, constantValue := 0 }, { name := "PASSED", type := .int, accessFlags := 26, slot := 9, constantValue := 0 }, { name := "RUN_FOUND", type := .int, accessFlags := 26, slot := 10, constantValue := 0 }, { name := "STEPS_ASKED", type := .int, accessFlags := 26, slot := 11, constantValue := 0 }, { name := "capacity", type := (.array .int), accessFlags := 18, slot := 0, constantValue := 0 }, { name := "tops", type := (.array .int), accessFlags := 18, slot := 1, constantValue := 0 }, { name := "chunkSize", type := .int, accessFlags := 18, slot := 2, constantValue := 0 }, { name := "kinds", type := .int, accessFlags := 18, slot := 3, constantValue := 0 }, { name := "chunks", type := (.array (.object "com/example/slackline/slackline/replay/Steps$Chunk")), accessFlags := 2, slot := 4, constantValue := 0 }, { name := "chunkCount", type := .int, accessFlags := 2, slot := 5, constantValue := 0 }, { name := "firstTimes", type := (.array .long), accessFlags := 2, slot := 6, constantValue := 0 }, { name := "peaks", type := (.array .long), accessFlags := 2, slot := 7, constantValue := 0 }, { name := "lastFloor", type := .int, accessFlags := 2, slot := 8, constantValue := 0 }, { name := "passedRun", type := .long, accessFlags := 2, slot := 9, constantValue := 0 }, { name := "splitChunk", type := .int, accessFlags := 2, slot := 10, constantValue := 0 }, { name := "splitStep", type := .int, accessFlags := 2, slot := 11, constantValue := 0 }, { name := "searches", type := .long, accessFlags := 2, slot := 12, constantValue := 0 }]
  methods := #[k5m0, k5m1, k5m2, k5m3, k5m4, k5m5, k5m6, k5m7, k5m8, k5m9, k5m10, k5m11, k5m12, k5m13]
  instanceTypes := #[(.array .int), (.array .int), .int, .int, (.array (.object "com/example/slackline/slackline/replay/Steps$Chunk")), .int, (.array .long), (.array .long), .int, .long, .int, .int, .long]
  staticTypes := #[.int, (.object "java/lang/String"), .int, .int, .int, .int, .int, .int, .long, .int, .int, .int]
  resolved := ((Array.replicate 363 none).setIfInBounds 81 (some (.cls 13)) |>.setIfInBounds 83 (some (.method ⟨13, 0⟩))).setIfInBounds 102 (some (.cls 17)) |>.setIfInBounds 108 (some (.method ⟨17, 0⟩))
  statics := none }

def pool6 : Array CpInfo := pool [(1, .fieldref 2 3), (0, .class_ 4), (0, .nameAndType 5 6), (0, u "com/example/slackline/slackline/replay/Steps$Chunk"), (0, u "this$0"), (0, u "Lcom/example/slackline/slackline/replay/Steps;"), (0, .methodref 8 9), (0, .class_ 10), (0, .nameAndType 11 12), (0, u "java/lang/Object"), (0, u "<init>"), (0, u "()V"), (0, .fieldref 14 15), (0, .class_ 16), (0, .nameAndType 17 18), (0, u "com/example/slackline/slackline/replay/Steps"), (0, u "chunkSize"), (0, u "I"), (0, .fieldref 2 20), (0, .nameAndType 21 22), (0, u "time"), (0, u "[J"), (0, .fieldref 14 24), (0, .nameAndType 25 18), (0, u "kinds"), (0, .fieldref 2 27), (0, .nameAndType 28 22), (0, u "inUse"), (0, .fieldref 2 30), (0, .nameAndType 31 22), (0, u "shared"), (0, .fieldref 2 33), (0, .nameAndType 34 35), (0, u "finishing"), (0, u "[I"), (0, .class_ 37), (0, u "com/example/slackline/slackline/replay/Steps$FreeRuns"), (0, .fieldref 2 39), (0, .nameAndType 40 41), (0, u "runs"), (0, u "[Lcom/example/slackline/slackline/replay/Steps$FreeRuns;"), (0, .fieldref 2 43), (0, .nameAndType 44 45), (0, u "block"), (0, u "Lcom/example/slackline/slackline/replay/Steps$Block;"), (0, .fieldref 47 48), (0, .class_ 49), (0, .nameAndType 50 18), (0, u "com/example/slackline/slackline/replay/Steps$Block"), (0, u "count"), (0, .fieldref 47 52), (0, .nameAndType 53 54), (0, u "version"), (0, u "J"), (0, u "size"), (0, u "peaksHigh"), (0, u "Z"), (0, u "(Lcom/example/slackline/slackline/replay/Steps;Lcom/example/slackline/slackline/replay/Steps$Block;)V")] 12

def k6c0 : Code := { maxStack := 5, maxLocals := 3, code := prog_101_method_1_code, exceptionTable := #[], attributes := #[] }
def k6m0 : Method := { name := "<init>", desc := "(Lcom/example/slackline/slackline/replay/Steps;Lcom/example/slackline/slackline/replay/Steps$Block;)V", sig := { parameters := [(.object "com/example/slackline/slackline/replay/Steps"), (.object "com/example/slackline/slackline/replay/Steps$Block")], returnType := none }, accessFlags := 0, code := some k6c0 }
/-- com/example/slackline/slackline/replay/Steps$Chunk -/
def k6 : Class := { plain "com/example/slackline/slackline/replay/Steps$Chunk" (some 0) with
  accessFlags := 48
  interfaces := #[]
  cf := some (fileOf pool6 2 #[.nestHost 14] #[{ accessFlags := 0, nameIndex := 11, descriptorIndex := 58, attributes := #[] }] 48 8 #[] #[{ accessFlags := 16, nameIndex := 21, descriptorIndex := 22, attributes := #[] }, { accessFlags := 16, nameIndex := 28, descriptorIndex := 22, attributes := #[] }, { accessFlags := 16, nameIndex := 31, descriptorIndex := 22, attributes := #[] }, { accessFlags := 16, nameIndex := 34, descriptorIndex := 35, attributes := #[] }, { accessFlags := 0, nameIndex := 55, descriptorIndex := 18, attributes := #[] }, { accessFlags := 0, nameIndex := 53, descriptorIndex := 54, attributes := #[] }, { accessFlags := 16, nameIndex := 40, descriptorIndex := 41, attributes := #[] }, { accessFlags := 0, nameIndex := 56, descriptorIndex := 57, attributes := #[] }, { accessFlags := 0, nameIndex := 44, descriptorIndex := 45, attributes := #[] }, { accessFlags := 4112, nameIndex := 5, descriptorIndex := 6, attributes := #[] }])
  fields := #[{ name := "time", type := (.array .long), accessFlags := 16, slot := 0, constantValue := 0 }, { name := "inUse", type := (.array .long), accessFlags := 16, slot := 1, constantValue := 0 }, { name := "shared", type := (.array .long), accessFlags := 16, slot := 2, constantValue := 0 }, { name := "finishing", type := (.array .int), accessFlags := 16, slot := 3, constantValue := 0 }, { name := "size", type := .int, accessFlags := 0, slot := 4, constantValue := 0 }, { name := "version", type := .long, accessFlags := 0, slot := 5, constantValue := 0 }, { name := "runs", type := (.array (.object "com/example/slackline/slackline/replay/Steps$FreeRuns")), accessFlags := 16, slot := 6, constantValue := 0 }, { name := "peaksHigh", type := .boolean, accessFlags := 0, slot := 7, constantValue := 0 }, { name := "block", type := (.object "com/example/slackline/slackline/replay/Steps$Block"), accessFlags := 0, slot := 8, constantValue := 0 }, { name := "this$0", type := (.object "com/example/slackline/slackline/replay/Steps"), accessFlags := 4112, slot := 9, constantValue := 0 }]
  methods := #[k6m0]
  instanceTypes := #[(.array .long), (.array .long), (.array .long), (.array .int), .int, .long, (.array (.object "com/example/slackline/slackline/replay/Steps$FreeRuns")), .boolean, (.object "com/example/slackline/slackline/replay/Steps$Block"), (.object "com/example/slackline/slackline/replay/Steps")]
  staticTypes := #[]
  resolved := Array.replicate 71 none
  statics := none }

def pool7 : Array CpInfo := pool [(1, .class_ 2), (0, u "java/io/Serializable"), (0, .class_ 4), (0, u "java/lang/Object")] 2

/-- java/io/Serializable -/
def k7 : Class := { plain "java/io/Serializable" (some 0) with
  accessFlags := 1537
  interfaces := #[]
  cf := some (fileOf pool7 1 #[] #[] 1537 3 #[] #[])
  fields := #[]
  methods := #[]
  instanceTypes := #[]
  staticTypes := #[]
  resolved := Array.replicate 7 none
  statics := none }

def pool8 : Array CpInfo := pool [(2, .class_ 4), (1, u "java/lang/Object"), (0, u "<init>"), (0, u "()V"), (1, .class_ 10), (1, u "java/lang/Number"), (2, .class_ 14), (0, u "java/io/Serializable"), (0, u "serialVersionUID"), (0, u "J")] 20

def k8m0 : Method := { name := "<init>", desc := "()V", sig := { parameters := [], returnType := none }, accessFlags := 1, code := none }
/-- java/lang/Number -/
def k8 : Class := { plain "java/lang/Number" (some 0) with
  accessFlags := 1057
  interfaces := #[7]
  cf := some (fileOf pool8 8 #[] #[{ accessFlags := 1, nameIndex := 5, descriptorIndex := 6, attributes := #[] }] 1057 2 #[13] #[{ accessFlags := 26, nameIndex := 15, descriptorIndex := 16, attributes := #[] }])
  fields := #[{ name := "serialVersionUID", type := .long, accessFlags := 26, slot := 0, constantValue := 0 }]
  methods := #[k8m0]
  instanceTypes := #[]
  staticTypes := #[.long]
  resolved := Array.replicate 37 none
  statics := none }

def pool9 : Array CpInfo := pool [(1, .class_ 2), (0, u "java/lang/Comparable"), (0, .class_ 4), (0, u "java/lang/Object")] 7

/-- java/lang/Comparable -/
def k9 : Class := { plain "java/lang/Comparable" (some 0) with
  accessFlags := 1537
  interfaces := #[]
  cf := some (fileOf pool9 1 #[] #[] 1537 3 #[] #[])
  fields := #[]
  methods := #[]
  instanceTypes := #[]
  staticTypes := #[]
  resolved := Array.replicate 12 none
  statics := none }

def pool10 : Array CpInfo := pool [(1, .class_ 2), (0, u "java/lang/constant/Constable"), (0, .class_ 4), (0, u "java/lang/Object")] 6

/-- java/lang/constant/Constable -/
def k10 : Class := { plain "java/lang/constant/Constable" (some 0) with
  accessFlags := 1537
  interfaces := #[]
  cf := some (fileOf pool10 1 #[] #[] 1537 3 #[] #[])
  fields := #[]
  methods := #[]
  instanceTypes := #[]
  staticTypes := #[]
  resolved := Array.replicate 11 none
  statics := none }

def pool11 : Array CpInfo := pool [(1, .class_ 2), (0, u "java/lang/constant/ConstantDesc"), (0, .class_ 4), (0, u "java/lang/Object")] 32

/-- java/lang/constant/ConstantDesc -/
def k11 : Class := { plain "java/lang/constant/ConstantDesc" (some 0) with
  accessFlags := 1537
  interfaces := #[]
  cf := some (fileOf pool11 1 #[] #[] 1537 3 #[] #[])
  fields := #[]
  methods := #[]
  instanceTypes := #[]
  staticTypes := #[]
  resolved := Array.replicate 37 none
  statics := none }

def pool12 : Array CpInfo := pool [(1, .class_ 2), (0, u "java/lang/Integer"), (16, u "digits"), (0, u "[C"), (32, u "numberOfLeadingZeros"), (0, u "(I)I"), (30, u "DigitOnes"), (0, u "[B"), (2, u "DigitTens"), (99, .class_ 190), (0, u "java/lang/Integer$IntegerCache"), (3, u "I"), (8, .class_ 204), (0, u "java/lang/Number"), (2, u "value"), (56, .integer 65536), (37, u "TYPE"), (0, u "Ljava/lang/Class;"), (0, .class_ 305), (0, u "java/lang/Comparable"), (0, .class_ 307), (0, u "java/lang/constant/Constable"), (0, .class_ 309), (0, u "java/lang/constant/ConstantDesc"), (0, u "MIN_VALUE"), (1, u "MAX_VALUE"), (3, u "SIZE"), (1, u "BYTES"), (1, u "serialVersionUID"), (0, u "J")] 131

def k12c0 : Code := { maxStack := 3, maxLocals := 2, code := jdk_33_method_47_code, exceptionTable := #[], attributes := #[] }
def k12m0 : Method := { name := "numberOfLeadingZeros", desc := "(I)I", sig := { parameters := [.int], returnType := some .int }, accessFlags := 9, code := some k12c0 }
/-- java/lang/Integer -/
def k12 : Class := { plain "java/lang/Integer" (some 8) with
  accessFlags := 49
  interfaces := #[9, 10, 11]
  cf := some (fileOf pool12 1 #[.nestMembers #[189]] #[{ accessFlags := 9, nameIndex := 53, descriptorIndex := 54, attributes := #[] }] 49 203 #[304, 306, 308] #[{ accessFlags := 25, nameIndex := 310, descriptorIndex := 194, attributes := #[] }, { accessFlags := 25, nameIndex := 312, descriptorIndex := 194, attributes := #[] }, { accessFlags := 25, nameIndex := 302, descriptorIndex := 303, attributes := #[] }, { accessFlags := 24, nameIndex := 19, descriptorIndex := 20, attributes := #[] }, { accessFlags := 24, nameIndex := 89, descriptorIndex := 86, attributes := #[] }, { accessFlags := 24, nameIndex := 85, descriptorIndex := 86, attributes := #[] }, { accessFlags := 18, nameIndex := 207, descriptorIndex := 194, attributes := #[] }, { accessFlags := 25, nameIndex := 316, descriptorIndex := 194, attributes := #[] }, { accessFlags := 25, nameIndex := 318, descriptorIndex := 194, attributes := #[] }, { accessFlags := 26, nameIndex := 320, descriptorIndex := 321, attributes := #[] }])
  fields := #[{ name := "MIN_VALUE", type := .int, accessFlags := 25, slot := 0, constantValue := 0 }, { name := "MAX_VALUE", type := .int, accessFlags := 25, slot := 1, constantValue := 0 }, { name := "TYPE", type := (.object "java/lang/Class"), accessFlags := 25, slot := 2, constantValue := 0 }, { name := "digits", type := (.array .char), accessFlags := 24, slot := 3, constantValue := 0 }, { name := "DigitTens", type := (.array .byte), accessFlags := 24, slot := 4, constantValue := 0 }, { name := "DigitOnes", type := (.array .byte), accessFlags := 24, slot := 5, constantValue := 0 }, { name := "value", type := .int, accessFlags := 18, slot := 0, constantValue := 0 }, { name := "SIZE", type := .int, accessFlags := 25, slot := 6, constantValue := 0 }, { name := "BYTES", type := .int, accessFlags := 25, slot := 7, constantValue := 0 }, { name := "serialVersionUID", type := .long, accessFlags := 26, slot := 8, constantValue := 0 }]
  methods := #[k12m0]
  instanceTypes := #[.int]
  staticTypes := #[.int, .int, (.object "java/lang/Class"), (.array .char), (.array .byte), (.array .byte), .int, .int, .long]
  resolved := Array.replicate 453 none
  statics := none }

def pool13 : Array CpInfo := pool [(1, .fieldref 2 3), (0, .class_ 4), (0, .nameAndType 5 6), (0, u "com/example/slackline/slackline/replay/Steps$Block"), (0, u "this$0"), (0, u "Lcom/example/slackline/slackline/replay/Steps;"), (0, .methodref 8 9), (0, .class_ 10), (0, .nameAndType 11 12), (0, u "java/lang/Object"), (0, u "<init>"), (0, u "()V"), (0, .fieldref 14 15), (0, .class_ 16), (0, .nameAndType 17 18), (0, u "com/example/slackline/slackline/replay/Steps"), (0, u "kinds"), (0, u "I"), (0, .class_ 20), (0, u "com/example/slackline/slackline/replay/Steps$FreeRuns"), (0, .fieldref 2 22), (0, .nameAndType 23 24), (0, u "runs"), (0, u "[Lcom/example/slackline/slackline/replay/Steps$FreeRuns;"), (0, u "count"), (0, u "version"), (0, u "J"), (0, u "(Lcom/example/slackline/slackline/replay/Steps;)V")] 9

def k13c0 : Code := { maxStack := 2, maxLocals := 2, code := prog_100_method_1_code, exceptionTable := #[], attributes := #[] }
def k13m0 : Method := { name := "<init>", desc := "(Lcom/example/slackline/slackline/replay/Steps;)V", sig := { parameters := [(.object "com/example/slackline/slackline/replay/Steps")], returnType := none }, accessFlags := 2, code := some k13c0 }
/-- com/example/slackline/slackline/replay/Steps$Block -/
def k13 : Class := { plain "com/example/slackline/slackline/replay/Steps$Block" (some 0) with
  accessFlags := 48
  interfaces := #[]
  cf := some (fileOf pool13 2 #[.nestHost 14] #[{ accessFlags := 2, nameIndex := 11, descriptorIndex := 28, attributes := #[] }] 48 8 #[] #[{ accessFlags := 0, nameIndex := 25, descriptorIndex := 18, attributes := #[] }, { accessFlags := 0, nameIndex := 26, descriptorIndex := 27, attributes := #[] }, { accessFlags := 16, nameIndex := 23, descriptorIndex := 24, attributes := #[] }, { accessFlags := 4112, nameIndex := 5, descriptorIndex := 6, attributes := #[] }])
  fields := #[{ name := "count", type := .int, accessFlags := 0, slot := 0, constantValue := 0 }, { name := "version", type := .long, accessFlags := 0, slot := 1, constantValue := 0 }, { name := "runs", type := (.array (.object "com/example/slackline/slackline/replay/Steps$FreeRuns")), accessFlags := 16, slot := 2, constantValue := 0 }, { name := "this$0", type := (.object "com/example/slackline/slackline/replay/Steps"), accessFlags := 4112, slot := 3, constantValue := 0 }]
  methods := #[k13m0]
  instanceTypes := #[.int, .long, (.array (.object "com/example/slackline/slackline/replay/Steps$FreeRuns")), (.object "com/example/slackline/slackline/replay/Steps")]
  staticTypes := #[]
  resolved := Array.replicate 38 none
  statics := none }

def pool14 : Array CpInfo := pool [(2, .class_ 4), (1, u "java/lang/Object"), (5, .class_ 12), (1, u "com/example/slackline/slackline/replay/Steps$FreeRuns"), (0, u "version"), (0, u "J"), (2, u "askedAt"), (2, u "levels"), (0, u "[J"), (0, u "askedIn"), (6, .class_ 30), (0, u "com/example/slackline/slackline/replay/Steps")] 2

/-- com/example/slackline/slackline/replay/Steps$FreeRuns -/
def k14 : Class := { plain "com/example/slackline/slackline/replay/Steps$FreeRuns" (some 0) with
  accessFlags := 48
  interfaces := #[]
  cf := some (fileOf pool14 10 #[.nestHost 29] #[] 48 2 #[] #[{ accessFlags := 0, nameIndex := 13, descriptorIndex := 14, attributes := #[] }, { accessFlags := 0, nameIndex := 17, descriptorIndex := 14, attributes := #[] }, { accessFlags := 0, nameIndex := 22, descriptorIndex := 14, attributes := #[] }, { accessFlags := 16, nameIndex := 20, descriptorIndex := 21, attributes := #[] }])
  fields := #[{ name := "version", type := .long, accessFlags := 0, slot := 0, constantValue := 0 }, { name := "askedAt", type := .long, accessFlags := 0, slot := 1, constantValue := 0 }, { name := "askedIn", type := .long, accessFlags := 0, slot := 2, constantValue := 0 }, { name := "levels", type := (.array .long), accessFlags := 16, slot := 3, constantValue := 0 }]
  methods := #[]
  instanceTypes := #[.long, .long, .long, (.array .long)]
  staticTypes := #[]
  resolved := Array.replicate 33 none
  statics := none }

def pool15 : Array CpInfo := pool [(1, .methodref 2 3), (0, .class_ 4), (0, .nameAndType 5 6), (0, u "java/lang/Object"), (0, u "<init>"), (0, u "()V"), (0, .class_ 8), (0, u "com/example/slackline/slackline/replay/DraftSteps"), (0, .fieldref 7 10), (0, .nameAndType 11 12), (0, u "changeTimes"), (0, u "[J"), (0, .fieldref 7 14), (0, .nameAndType 15 16), (0, u "stepOf"), (0, u "[I"), (0, .fieldref 7 18), (0, .nameAndType 19 16), (0, u "inOrder"), (0, .fieldref 7 21), (0, .nameAndType 22 12), (0, u "time"), (0, .fieldref 7 24), (0, .nameAndType 25 16), (0, u "finishing"), (0, .fieldref 7 27), (0, .nameAndType 28 29), (0, u "kinds"), (0, u "I"), (0, .fieldref 7 31), (0, .nameAndType 32 12), (0, u "units"), (0, .fieldref 7 34), (0, .nameAndType 35 29), (0, u "size"), (3, u "(I)V"), (54, u "FEW_CHANGES")] 15

def k15c0 : Code := { maxStack := 3, maxLocals := 2, code := prog_84_method_1_code, exceptionTable := #[], attributes := #[] }
def k15m0 : Method := { name := "<init>", desc := "(I)V", sig := { parameters := [.int], returnType := none }, accessFlags := 0, code := some k15c0 }
/-- com/example/slackline/slackline/replay/DraftSteps -/
def k15 : Class := { plain "com/example/slackline/slackline/replay/DraftSteps" (some 0) with
  accessFlags := 48
  interfaces := #[]
  cf := some (fileOf pool15 7 #[] #[{ accessFlags := 0, nameIndex := 5, descriptorIndex := 39, attributes := #[] }] 48 2 #[] #[{ accessFlags := 26, nameIndex := 94, descriptorIndex := 29, attributes := #[] }, { accessFlags := 18, nameIndex := 28, descriptorIndex := 29, attributes := #[] }, { accessFlags := 2, nameIndex := 11, descriptorIndex := 12, attributes := #[] }, { accessFlags := 2, nameIndex := 15, descriptorIndex := 16, attributes := #[] }, { accessFlags := 18, nameIndex := 19, descriptorIndex := 16, attributes := #[] }, { accessFlags := 2, nameIndex := 22, descriptorIndex := 12, attributes := #[] }, { accessFlags := 2, nameIndex := 32, descriptorIndex := 12, attributes := #[] }, { accessFlags := 2, nameIndex := 25, descriptorIndex := 16, attributes := #[] }, { accessFlags := 2, nameIndex := 35, descriptorIndex := 29, attributes := #[] }])
  fields := #[{ name := "FEW_CHANGES", type := .int, accessFlags := 26, slot := 0, constantValue := 0 }, { name := "kinds", type := .int, accessFlags := 18, slot := 0, constantValue := 0 }, { name := "changeTimes", type := (.array .long), accessFlags := 2, slot := 1, constantValue := 0 }, { name := "stepOf", type := (.array .int), accessFlags := 2, slot := 2, constantValue := 0 }, { name := "inOrder", type := (.array .int), accessFlags := 18, slot := 3, constantValue := 0 }, { name := "time", type := (.array .long), accessFlags := 2, slot := 4, constantValue := 0 }, { name := "units", type := (.array .long), accessFlags := 2, slot := 5, constantValue := 0 }, { name := "finishing", type := (.array .int), accessFlags := 2, slot := 6, constantValue := 0 }, { name := "size", type := .int, accessFlags := 2, slot := 7, constantValue := 0 }]
  methods := #[k15m0]
  instanceTypes := #[.int, (.array .long), (.array .int), (.array .int), (.array .long), (.array .long), (.array .int), .int]
  staticTypes := #[.int]
  resolved := Array.replicate 110 none
  statics := none }

def pool16 : Array CpInfo := pool [(1, .fieldref 2 3), (0, .class_ 4), (0, .nameAndType 5 6), (0, u "com/example/slackline/slackline/replay/Plan$Walk"), (0, u "this$0"), (0, u "Lcom/example/slackline/slackline/replay/Plan;"), (0, .methodref 8 9), (0, .class_ 10), (0, .nameAndType 11 12), (0, u "java/lang/Object"), (0, u "<init>"), (0, u "()V"), (0, .fieldref 14 15), (0, .class_ 16), (0, .nameAndType 17 18), (0, u "com/example/slackline/slackline/replay/Plan"), (0, u "steps"), (0, u "Lcom/example/slackline/slackline/replay/Steps;"), (0, .methodref 20 21), (0, .class_ 22), (0, .nameAndType 23 24), (0, u "com/example/slackline/slackline/replay/Steps"), (0, u "floor"), (0, u "(J)Lcom/example/slackline/slackline/replay/Steps$Cursor;"), (0, .fieldref 2 26), (0, .nameAndType 27 28), (0, u "planStep"), (0, u "Lcom/example/slackline/slackline/replay/Steps$Cursor;"), (0, .fieldref 14 30), (0, .nameAndType 31 32), (0, u "kinds"), (0, u "I"), (0, .fieldref 2 34), (0, .nameAndType 35 36), (0, u "most"), (0, u "[J"), (0, .fieldref 2 38), (0, .nameAndType 39 36), (0, u "room"), (9, u "Lcom/example/slackline/slackline/replay/DraftSteps;"), (2, u "added"), (18, u "change"), (6, u "time"), (0, u "J"), (59, u "(Lcom/example/slackline/slackline/replay/Plan;)V")] 16

def k16c0 : Code := { maxStack := 4, maxLocals := 2, code := prog_94_method_1_code, exceptionTable := #[], attributes := #[] }
def k16m0 : Method := { name := "<init>", desc := "(Lcom/example/slackline/slackline/replay/Plan;)V", sig := { parameters := [(.object "com/example/slackline/slackline/replay/Plan")], returnType := none }, accessFlags := 2, code := some k16c0 }
/-- com/example/slackline/slackline/replay/Plan$Walk -/
def k16 : Class := { plain "com/example/slackline/slackline/replay/Plan$Walk" (some 0) with
  accessFlags := 48
  interfaces := #[]
  cf := some (fileOf pool16 2 #[.nestHost 14] #[{ accessFlags := 2, nameIndex := 11, descriptorIndex := 139, attributes := #[] }] 48 8 #[] #[{ accessFlags := 18, nameIndex := 27, descriptorIndex := 28, attributes := #[] }, { accessFlags := 2, nameIndex := 52, descriptorIndex := 49, attributes := #[] }, { accessFlags := 2, nameIndex := 71, descriptorIndex := 32, attributes := #[] }, { accessFlags := 18, nameIndex := 35, descriptorIndex := 36, attributes := #[] }, { accessFlags := 18, nameIndex := 39, descriptorIndex := 36, attributes := #[] }, { accessFlags := 2, nameIndex := 78, descriptorIndex := 79, attributes := #[] }, { accessFlags := 4112, nameIndex := 5, descriptorIndex := 6, attributes := #[] }])
  fields := #[{ name := "planStep", type := (.object "com/example/slackline/slackline/replay/Steps$Cursor"), accessFlags := 18, slot := 0, constantValue := 0 }, { name := "added", type := (.object "com/example/slackline/slackline/replay/DraftSteps"), accessFlags := 2, slot := 1, constantValue := 0 }, { name := "change", type := .int, accessFlags := 2, slot := 2, constantValue := 0 }, { name := "most", type := (.array .long), accessFlags := 18, slot := 3, constantValue := 0 }, { name := "room", type := (.array .long), accessFlags := 18, slot := 4, constantValue := 0 }, { name := "time", type := .long, accessFlags := 2, slot := 5, constantValue := 0 }, { name := "this$0", type := (.object "com/example/slackline/slackline/replay/Plan"), accessFlags := 4112, slot := 6, constantValue := 0 }]
  methods := #[k16m0]
  instanceTypes := #[(.object "com/example/slackline/slackline/replay/Steps$Cursor"), (.object "com/example/slackline/slackline/replay/DraftSteps"), .int, (.array .long), (.array .long), .long, (.object "com/example/slackline/slackline/replay/Plan")]
  staticTypes := #[]
  resolved := Array.replicate 156 none
  statics := none }

def pool17 : Array CpInfo := pool [(1, .fieldref 2 3), (0, .class_ 4), (0, .nameAndType 5 6), (0, u "com/example/slackline/slackline/replay/Steps$Cursor"), (0, u "this$0"), (0, u "Lcom/example/slackline/slackline/replay/Steps;"), (0, .methodref 8 9), (0, .class_ 10), (0, .nameAndType 11 12), (0, u "java/lang/Object"), (0, u "<init>"), (0, u "()V"), (0, .fieldref 2 14), (0, .nameAndType 15 16), (0, u "chunk"), (0, u "I"), (0, .fieldref 2 18), (0, .nameAndType 19 16), (0, u "index"), (0, .fieldref 21 22), (0, .class_ 23), (0, .nameAndType 24 25), (0, u "com/example/slackline/slackline/replay/Steps"), (0, u "chunks"), (0, u "[Lcom/example/slackline/slackline/replay/Steps$Chunk;"), (0, .fieldref 2 27), (0, .nameAndType 28 29), (0, u "in"), (0, u "Lcom/example/slackline/slackline/replay/Steps$Chunk;"), (38, u "(Lcom/example/slackline/slackline/replay/Steps;II)V")] 29

def k17c0 : Code := { maxStack := 3, maxLocals := 4, code := prog_102_method_1_code, exceptionTable := #[], attributes := #[] }
def k17m0 : Method := { name := "<init>", desc := "(Lcom/example/slackline/slackline/replay/Steps;II)V", sig := { parameters := [(.object "com/example/slackline/slackline/replay/Steps"), .int, .int], returnType := none }, accessFlags := 2, code := some k17c0 }
/-- com/example/slackline/slackline/replay/Steps$Cursor -/
def k17 : Class := { plain "com/example/slackline/slackline/replay/Steps$Cursor" (some 0) with
  accessFlags := 48
  interfaces := #[]
  cf := some (fileOf pool17 2 #[.nestHost 21] #[{ accessFlags := 2, nameIndex := 11, descriptorIndex := 68, attributes := #[] }] 48 8 #[] #[{ accessFlags := 2, nameIndex := 15, descriptorIndex := 16, attributes := #[] }, { accessFlags := 2, nameIndex := 19, descriptorIndex := 16, attributes := #[] }, { accessFlags := 2, nameIndex := 28, descriptorIndex := 29, attributes := #[] }, { accessFlags := 4112, nameIndex := 5, descriptorIndex := 6, attributes := #[] }])
  fields := #[{ name := "chunk", type := .int, accessFlags := 2, slot := 0, constantValue := 0 }, { name := "index", type := .int, accessFlags := 2, slot := 1, constantValue := 0 }, { name := "in", type := (.object "com/example/slackline/slackline/replay/Steps$Chunk"), accessFlags := 2, slot := 2, constantValue := 0 }, { name := "this$0", type := (.object "com/example/slackline/slackline/replay/Steps"), accessFlags := 4112, slot := 3, constantValue := 0 }]
  methods := #[k17m0]
  instanceTypes := #[.int, .int, (.object "com/example/slackline/slackline/replay/Steps$Chunk"), (.object "com/example/slackline/slackline/replay/Steps")]
  staticTypes := #[]
  resolved := Array.replicate 98 none
  statics := none }

def pool18 : Array CpInfo := pool [(2, .class_ 4), (1, u "java/lang/Object"), (0, u "<init>"), (0, u "()V"), (1, .class_ 10), (1, u "java/lang/System"), (0, u "allowSecurityManager"), (0, u "I"), (16, u "cons"), (0, u "Ljava/io/Console;"), (77, .class_ 110), (1, u "java/lang/System$CallersHolder"), (43, u "initialErrStream"), (0, u "Ljava/io/PrintStream;"), (19, u "security"), (0, u "Ljava/lang/SecurityManager;"), (31, .class_ 209), (0, u "java/lang/System$1"), (7, u "props"), (0, u "Ljava/util/Properties;"), (2, u "lineSeparator"), (0, u "Ljava/lang/String;"), (96, .class_ 321), (1, u "java/lang/System$LoggerFinder"), (5, .class_ 328), (0, u "java/lang/System$Logger"), (67, u "err"), (2, u "out"), (91, u "notSupportedJnuEncoding"), (15, u "in"), (17, u "initialIn"), (0, u "Ljava/io/InputStream;"), (35, u "bootLayer"), (0, u "Ljava/lang/ModuleLayer;"), (99, .class_ 664), (0, u "java/lang/System$2"), (9, u "NEVER"), (2, u "MAYBE"), (49, u "arraycopy"), (0, u "(Ljava/lang/Object;ILjava/lang/Object;II)V"), (72, .class_ 802), (0, u "java/lang/System$Logger$Level")] 31

def k18m0 : Method := { name := "<init>", desc := "()V", sig := { parameters := [], returnType := none }, accessFlags := 2, code := none }
def k18m1 : Method := { name := "arraycopy", desc := "(Ljava/lang/Object;ILjava/lang/Object;II)V", sig := { parameters := [(.object "java/lang/Object"), .int, (.object "java/lang/Object"), .int, .int], returnType := none }, accessFlags := 265, code := none }
/-- java/lang/System -/
def k18 : Class := { plain "java/lang/System" (some 0) with
  accessFlags := 49
  interfaces := #[]
  cf := some (fileOf pool18 8 #[.nestMembers #[319, 327, 801, 108, 663, 208]] #[{ accessFlags := 2, nameIndex := 5, descriptorIndex := 6, attributes := #[] }, { accessFlags := 265, nameIndex := 727, descriptorIndex := 728, attributes := #[] }] 49 2 #[] #[{ accessFlags := 25, nameIndex := 507, descriptorIndex := 526, attributes := #[] }, { accessFlags := 25, nameIndex := 399, descriptorIndex := 155, attributes := #[] }, { accessFlags := 25, nameIndex := 396, descriptorIndex := 155, attributes := #[] }, { accessFlags := 10, nameIndex := 525, descriptorIndex := 526, attributes := #[] }, { accessFlags := 26, nameIndex := 674, descriptorIndex := 12, attributes := #[] }, { accessFlags := 26, nameIndex := 677, descriptorIndex := 12, attributes := #[] }, { accessFlags := 10, nameIndex := 11, descriptorIndex := 12, attributes := #[] }, { accessFlags := 74, nameIndex := 175, descriptorIndex := 176, attributes := #[] }, { accessFlags := 10, nameIndex := 491, descriptorIndex := 222, attributes := #[] }, { accessFlags := 74, nameIndex := 29, descriptorIndex := 30, attributes := #[] }, { accessFlags := 74, nameIndex := 154, descriptorIndex := 155, attributes := #[] }, { accessFlags := 10, nameIndex := 217, descriptorIndex := 218, attributes := #[] }, { accessFlags := 10, nameIndex := 221, descriptorIndex := 222, attributes := #[] }, { accessFlags := 8, nameIndex := 562, descriptorIndex := 563, attributes := #[] }])
  fields := #[{ name := "in", type := (.object "java/io/InputStream"), accessFlags := 25, slot := 0, constantValue := 0 }, { name := "out", type := (.object "java/io/PrintStream"), accessFlags := 25, slot := 1, constantValue := 0 }, { name := "err", type := (.object "java/io/PrintStream"), accessFlags := 25, slot := 2, constantValue := 0 }, { name := "initialIn", type := (.object "java/io/InputStream"), accessFlags := 10, slot := 3, constantValue := 0 }, { name := "NEVER", type := .int, accessFlags := 26, slot := 4, constantValue := 0 }, { name := "MAYBE", type := .int, accessFlags := 26, slot := 5, constantValue := 0 }, { name := "allowSecurityManager", type := .int, accessFlags := 10, slot := 6, constantValue := 0 }, { name := "security", type := (.object "java/lang/SecurityManager"), accessFlags := 74, slot := 7, constantValue := 0 }, { name := "notSupportedJnuEncoding", type := (.object "java/lang/String"), accessFlags := 10, slot := 8, constantValue := 0 }, { name := "cons", type := (.object "java/io/Console"), accessFlags := 74, slot := 9, constantValue := 0 }, { name := "initialErrStream", type := (.object "java/io/PrintStream"), accessFlags := 74, slot := 10, constantValue := 0 }, { name := "props", type := (.object "java/util/Properties"), accessFlags := 10, slot := 11, constantValue := 0 }, { name := "lineSeparator", type := (.object "java/lang/String"), accessFlags := 10, slot := 12, constantValue := 0 }, { name := "bootLayer", type := (.object "java/lang/ModuleLayer"), accessFlags := 8, slot := 13, constantValue := 0 }]
  methods := #[k18m0, k18m1]
  instanceTypes := #[]
  staticTypes := #[(.object "java/io/InputStream"), (.object "java/io/PrintStream"), (.object "java/io/PrintStream"), (.object "java/io/InputStream"), .int, .int, .int, (.object "java/lang/SecurityManager"), (.object "java/lang/String"), (.object "java/io/Console"), (.object "java/io/PrintStream"), (.object "java/util/Properties"), (.object "java/lang/String"), (.object "java/lang/ModuleLayer")]
  resolved := Array.replicate 834 none
  statics := none }

/-- the primitive byte -/
def k19 : Class := { plain "byte" none with kind := .primitive 'B', accessFlags := 0x411 }
/-- [B -/
def k20 : Class := { plain "[B" (some 0) with kind := .array 19 .byte, interfaces := #[4, 7], accessFlags := 1041 }

/-- the primitive int -/
def k21 : Class := { plain "int" none with kind := .primitive 'I', accessFlags := 0x411 }
/-- [I -/
def k22 : Class := { plain "[I" (some 0) with kind := .array 21 .int, interfaces := #[4, 7], accessFlags := 1041 }

/-- the primitive long -/
def k23 : Class := { plain "long" none with kind := .primitive 'J', accessFlags := 0x411 }
/-- [J -/
def k24 : Class := { plain "[J" (some 0) with kind := .array 23 .long, interfaces := #[4, 7], accessFlags := 1041 }

/-- [Lcom/example/slackline/slackline/replay/Steps$Chunk; -/
def k25 : Class := { plain "[Lcom/example/slackline/slackline/replay/Steps$Chunk;" (some 0) with kind := .array 6 (.object "com/example/slackline/slackline/replay/Steps$Chunk"), interfaces := #[4, 7], accessFlags := 1041 }

/-- [Lcom/example/slackline/slackline/replay/Steps$FreeRuns; -/
def k26 : Class := { plain "[Lcom/example/slackline/slackline/replay/Steps$FreeRuns;" (some 0) with kind := .array 14 (.object "com/example/slackline/slackline/replay/Steps$FreeRuns"), interfaces := #[4, 7], accessFlags := 1041 }

def heap : Heap := #[]
def classes : Array Class := #[k0, k1, k2, k3, k4, k5, k6, k7, k8, k9, k10, k11, k12, k13, k14, k15, k16, k17, k18, k19, k20, k21, k22, k23, k24, k25, k26]
def interned : List (Array UInt16 × Addr) := []
def slotsUsed : Nat := 0
def theMethod : MethodId := ⟨1, 1⟩
def args0 : Array Value := #[.long 5, .long 5, .long 5, .long 5, .long 5, .int 5]
def aboutOver (below : List Frame) : State where
  vm := { classes := classes, interned := interned.toArray }
  heap := heap
  slotsUsed := slotsUsed
  threads := #[{ frames := .invoking theMethod args0 :: below }]
def below0 : List Frame := [.native { method := ⟨0, 0⟩, args := #[] }]
def about1 : State := aboutOver below0
def p0 : Program := .bare "" "" ""
def e0 : Env := launch0.env 0 0 0
theorem w_frames : about1.frames = Frame.invoking theMethod args0 :: below0 := rfl
set_option maxRecDepth 65536 in
theorem w_args : argsFit about1.vm theMethod args0 = true := by decide +kernel
set_option maxRecDepth 65536 in
theorem w_heap : heapFits about1 = true := by decide +kernel
set_option maxRecDepth 65536 in
theorem w_runnable : about1.curStatus? = some .runnable := by decide +kernel
set_option maxRecDepth 65536 in
theorem w_alone : about1.alone = true := by decide +kernel
set_option maxRecDepth 65536 in
theorem w_named : about1.methodNamed? x = some theMethod := by decide +kernel
set_option maxRecDepth 65536 in
theorem w_hears : about1.hears theMethod below0 = true := by decide +kernel
set_option maxRecDepth 65536 in
theorem w_ripe : about1.ripe theMethod args0 below0 = true := by decide +kernel
theorem w_running : about1.status = .running := rfl
set_option maxRecDepth 65536 in
theorem w_room : about1.hasRoom e0.platform room_1 = true :=
  launch0.hasRoom_least _ room_1 (by decide +kernel) (by decide +kernel) (by decide +kernel) (by decide +kernel) (by decide +kernel) (by decide +kernel)
theorem allAtoms_all (ts : List Jvm.Cond) (a : Array Jvm.Value) (st : Jvm.State) : (allAtoms ts).before a st = ts.all (fun c => c.before a st) := by
  induction ts with
  | nil => rfl
  | cons c t ih =>
    show (Jvm.Cond.and c (allAtoms t)).before a st = _
    rw [Jvm.Cond.before_and, ih, List.all_cons]
def words1 : List Jvm.Cond := Jvm.Cond.code x code maxLocals ret :: tables_1
/-- a 'code' word, met by the world's own term for the bytes: nothing is compared byte by byte -/
theorem code_word {y : MethodName} {bytes : ByteArray} {mx : Nat} {rt : Option FieldType} {a : Array Value} {s : State} {m : MethodId} {meth : Method} {c : Code} (h1 : s.methodNamed? y = some m) (h2 : s.vm.method? m = some meth) (h3 : meth.code = some c) (h4 : c.code = bytes)
    (h5 : (c.maxLocals == mx && c.exceptionTable.isEmpty && decide (c.maxStack ≤ mostOperands) && decide (meth.sig.returnType = rt) && !meth.locks && decide (parseMethodDescriptor y.desc = some meth.sig)) = true) : (Jvm.Cond.code y bytes mx rt).before a s = true := by
  simp only [Bool.and_eq_true, beq_iff_eq, Bool.not_eq_true', decide_eq_true_eq] at h5
  obtain ⟨⟨⟨⟨⟨g1, g2⟩, g3⟩, g4⟩, g5⟩, g6⟩ := h5
  simp [Cond.before, Cond.holds, Cond.value, h1, h2, h3, h4, g1, g2, g3, g4, g5, g6]
def isCode : Jvm.Cond → Bool
  | .code _ _ _ _ => true
  | _ => false
theorem all_split {L : List Jvm.Cond} {P : Jvm.Cond → Bool} (h1 : L.all (fun c => isCode c || P c) = true) (h2 : ∀ c ∈ L.filter isCode, P c = true) : L.all P = true := by
  refine List.all_eq_true.mpr fun c hc => ?_
  have h := List.all_eq_true.mp h1 c hc
  rcases Bool.eq_false_or_eq_true (isCode c) with hi | hi
  · exact h2 c (List.mem_filter.mpr ⟨hc, hi⟩)
  · simpa [hi] using h
set_option maxRecDepth 65536 in
theorem w_c0 : (Jvm.Cond.code x code maxLocals ret).before args0 about1 = true := code_word (m := ⟨1, 1⟩) (meth := k1m1) (c := k1c1) (by decide +kernel) rfl rfl rfl (by decide +kernel)
set_option maxRecDepth 65536 in
theorem w_c1 : (Jvm.Cond.code ({ cls := "java/lang/Math", name := "min", desc := "(JJ)J" } : Jvm.MethodName) jdk_29_method_70_code (4 : Nat) (Option.some Jvm.ClassFile.FieldType.long)).before args0 about1 = true := code_word (m := ⟨2, 3⟩) (meth := k2m3) (c := k2c3) (by decide +kernel) rfl rfl rfl (by decide +kernel)
set_option maxRecDepth 65536 in
theorem w_c2 : (Jvm.Cond.code ({ cls := "java/lang/Math", name := "max", desc := "(JJ)J" } : Jvm.MethodName) jdk_29_method_66_code (4 : Nat) (Option.some Jvm.ClassFile.FieldType.long)).before args0 about1 = true := code_word (m := ⟨2, 2⟩) (meth := k2m2) (c := k2c2) (by decide +kernel) rfl rfl rfl (by decide +kernel)
set_option maxRecDepth 65536 in
theorem w_c3 : (Jvm.Cond.code ({ cls := "com/example/slackline/slackline/replay/Plan", name := "<init>", desc := "([II)V" } : Jvm.MethodName) prog_91_method_2_code (3 : Nat) (Option.none : Option Jvm.ClassFile.FieldType)).before args0 about1 = true := code_word (m := ⟨3, 0⟩) (meth := k3m0) (c := k3c0) (by decide +kernel) rfl rfl rfl (by decide +kernel)
set_option maxRecDepth 65536 in
theorem w_c4 : (Jvm.Cond.code ({ cls := "java/lang/Object", name := "<init>", desc := "()V" } : Jvm.MethodName) object_method_1_code (1 : Nat) (Option.none : Option Jvm.ClassFile.FieldType)).before args0 about1 = true := code_word (m := ⟨0, 0⟩) (meth := k0m0) (c := k0c0) (by decide +kernel) rfl rfl rfl (by decide +kernel)
set_option maxRecDepth 65536 in
theorem w_c5 : (Jvm.Cond.code ({ cls := "com/example/slackline/slackline/replay/Steps", name := "<init>", desc := "([II)V" } : Jvm.MethodName) prog_99_method_4_code (4 : Nat) (Option.none : Option Jvm.ClassFile.FieldType)).before args0 about1 = true := code_word (m := ⟨5, 0⟩) (meth := k5m0) (c := k5c0) (by decide +kernel) rfl rfl rfl (by decide +kernel)
set_option maxRecDepth 65536 in
theorem w_c6 : (Jvm.Cond.code ({ cls := "java/lang/Math", name := "max", desc := "(II)I" } : Jvm.MethodName) jdk_29_method_65_code (2 : Nat) (Option.some Jvm.ClassFile.FieldType.int)).before args0 about1 = true := code_word (m := ⟨2, 1⟩) (meth := k2m1) (c := k2c1) (by decide +kernel) rfl rfl rfl (by decide +kernel)
set_option maxRecDepth 65536 in
theorem w_c7 : (Jvm.Cond.code ({ cls := "java/lang/Integer", name := "numberOfLeadingZeros", desc := "(I)I" } : Jvm.MethodName) jdk_33_method_47_code (2 : Nat) (Option.some Jvm.ClassFile.FieldType.int)).before args0 about1 = true := code_word (m := ⟨12, 0⟩) (meth := k12m0) (c := k12c0) (by decide +kernel) rfl rfl rfl (by decide +kernel)
set_option maxRecDepth 65536 in
theorem w_c8 : (Jvm.Cond.code ({ cls := "com/example/slackline/slackline/replay/Steps$Block", name := "<init>", desc := "(Lcom/example/slackline/slackline/replay/Steps;)V" } : Jvm.MethodName) prog_100_method_1_code (2 : Nat) (Option.none : Option Jvm.ClassFile.FieldType)).before args0 about1 = true := code_word (m := ⟨13, 0⟩) (meth := k13m0) (c := k13c0) (by decide +kernel) rfl rfl rfl (by decide +kernel)
set_option maxRecDepth 65536 in
theorem w_c9 : (Jvm.Cond.code ({ cls := "com/example/slackline/slackline/replay/Steps$Chunk", name := "<init>", desc := "(Lcom/example/slackline/slackline/replay/Steps;Lcom/example/slackline/slackline/replay/Steps$Block;)V" } : Jvm.MethodName) prog_101_method_1_code (3 : Nat) (Option.none : Option Jvm.ClassFile.FieldType)).before args0 about1 = true := code_word (m := ⟨6, 0⟩) (meth := k6m0) (c := k6c0) (by decide +kernel) rfl rfl rfl (by decide +kernel)
set_option maxRecDepth 65536 in
theorem w_c10 : (Jvm.Cond.code ({ cls := "com/example/slackline/slackline/replay/DraftSteps", name := "<init>", desc := "(I)V" } : Jvm.MethodName) prog_84_method_1_code (2 : Nat) (Option.none : Option Jvm.ClassFile.FieldType)).before args0 about1 = true := code_word (m := ⟨15, 0⟩) (meth := k15m0) (c := k15c0) (by decide +kernel) rfl rfl rfl (by decide +kernel)
set_option maxRecDepth 65536 in
theorem w_c11 : (Jvm.Cond.code ({ cls := "com/example/slackline/slackline/replay/Plan$Walk", name := "<init>", desc := "(Lcom/example/slackline/slackline/replay/Plan;)V" } : Jvm.MethodName) prog_94_method_1_code (2 : Nat) (Option.none : Option Jvm.ClassFile.FieldType)).before args0 about1 = true := code_word (m := ⟨16, 0⟩) (meth := k16m0) (c := k16c0) (by decide +kernel) rfl rfl rfl (by decide +kernel)
set_option maxRecDepth 65536 in
theorem w_c12 : (Jvm.Cond.code ({ cls := "com/example/slackline/slackline/replay/Steps", name := "floor", desc := "(J)Lcom/example/slackline/slackline/replay/Steps$Cursor;" } : Jvm.MethodName) prog_99_method_6_code (4 : Nat) (Option.some (Jvm.ClassFile.FieldType.object "com/example/slackline/slackline/replay/Steps$Cursor"))).before args0 about1 = true := code_word (m := ⟨5, 1⟩) (meth := k5m1) (c := k5c1) (by decide +kernel) rfl rfl rfl (by decide +kernel)
set_option maxRecDepth 65536 in
theorem w_c13 : (Jvm.Cond.code ({ cls := "com/example/slackline/slackline/replay/Steps", name := "chunkAt", desc := "(J)I" } : Jvm.MethodName) prog_99_method_34_code (5 : Nat) (Option.some Jvm.ClassFile.FieldType.int)).before args0 about1 = true := code_word (m := ⟨5, 8⟩) (meth := k5m8) (c := k5c8) (by decide +kernel) rfl rfl rfl (by decide +kernel)
set_option maxRecDepth 65536 in
theorem w_c14 : (Jvm.Cond.code ({ cls := "com/example/slackline/slackline/replay/Steps", name := "stepAt", desc := "(Lcom/example/slackline/slackline/replay/Steps$Chunk;J)I" } : Jvm.MethodName) prog_99_method_35_code (3 : Nat) (Option.some Jvm.ClassFile.FieldType.int)).before args0 about1 = true := code_word (m := ⟨5, 9⟩) (meth := k5m9) (c := k5c9) (by decide +kernel) rfl rfl rfl (by decide +kernel)
set_option maxRecDepth 65536 in
theorem w_c15 : (Jvm.Cond.code ({ cls := "com/example/slackline/slackline/replay/Steps", name := "lastAtOrBefore", desc := "([JIJ)I" } : Jvm.MethodName) prog_99_method_36_code (7 : Nat) (Option.some Jvm.ClassFile.FieldType.int)).before args0 about1 = true := code_word (m := ⟨5, 10⟩) (meth := k5m10) (c := k5c10) (by decide +kernel) rfl rfl rfl (by decide +kernel)
set_option maxRecDepth 65536 in
theorem w_c16 : (Jvm.Cond.code ({ cls := "com/example/slackline/slackline/replay/Steps$Cursor", name := "<init>", desc := "(Lcom/example/slackline/slackline/replay/Steps;II)V" } : Jvm.MethodName) prog_102_method_1_code (4 : Nat) (Option.none : Option Jvm.ClassFile.FieldType)).before args0 about1 = true := code_word (m := ⟨17, 0⟩) (meth := k17m0) (c := k17c0) (by decide +kernel) rfl rfl rfl (by decide +kernel)
set_option maxRecDepth 65536 in
theorem w_c17 : (Jvm.Cond.code ({ cls := "com/example/slackline/slackline/replay/Plan", name := "reserve", desc := "(JJ[I)V" } : Jvm.MethodName) prog_91_method_15_code (6 : Nat) (Option.none : Option Jvm.ClassFile.FieldType)).before args0 about1 = true := code_word (m := ⟨3, 1⟩) (meth := k3m1) (c := k3c1) (by decide +kernel) rfl rfl rfl (by decide +kernel)
set_option maxRecDepth 65536 in
theorem w_c18 : (Jvm.Cond.code ({ cls := "com/example/slackline/slackline/replay/Steps", name := "place", desc := "(JJ[II)V" } : Jvm.MethodName) prog_99_method_18_code (7 : Nat) (Option.none : Option Jvm.ClassFile.FieldType)).before args0 about1 = true := code_word (m := ⟨5, 3⟩) (meth := k5m3) (c := k5c3) (by decide +kernel) rfl rfl rfl (by decide +kernel)
set_option maxRecDepth 65536 in
theorem w_c19 : (Jvm.Cond.code ({ cls := "com/example/slackline/slackline/replay/Steps", name := "split", desc := "(J)V" } : Jvm.MethodName) prog_99_method_13_code (8 : Nat) (Option.none : Option Jvm.ClassFile.FieldType)).before args0 about1 = true := code_word (m := ⟨5, 2⟩) (meth := k5m2) (c := k5c2) (by decide +kernel) rfl rfl rfl (by decide +kernel)
set_option maxRecDepth 65536 in
theorem w_c20 : (Jvm.Cond.code ({ cls := "com/example/slackline/slackline/replay/Steps", name := "move", desc := "(Lcom/example/slackline/slackline/replay/Steps$Chunk;ILcom/example/slackline/slackline/replay/Steps$Chunk;II)V" } : Jvm.MethodName) prog_99_method_42_code (6 : Nat) (Option.none : Option Jvm.ClassFile.FieldType)).before args0 about1 = true := code_word (m := ⟨5, 13⟩) (meth := k5m13) (c := k5c13) (by decide +kernel) rfl rfl rfl (by decide +kernel)
set_option maxRecDepth 65536 in
theorem w_c21 : (Jvm.Cond.code ({ cls := "com/example/slackline/slackline/replay/Steps", name := "addBefore", desc := "(IIJ[II)V" } : Jvm.MethodName) prog_99_method_20_code (10 : Nat) (Option.none : Option Jvm.ClassFile.FieldType)).before args0 about1 = true := code_word (m := ⟨5, 4⟩) (meth := k5m4) (c := k5c4) (by decide +kernel) rfl rfl rfl (by decide +kernel)
set_option maxRecDepth 65536 in
theorem w_c22 : (Jvm.Cond.code ({ cls := "com/example/slackline/slackline/replay/Steps", name := "stepsBefore", desc := "(Lcom/example/slackline/slackline/replay/Steps$Chunk;J)I" } : Jvm.MethodName) prog_99_method_21_code (3 : Nat) (Option.some Jvm.ClassFile.FieldType.int)).before args0 about1 = true := code_word (m := ⟨5, 5⟩) (meth := k5m5) (c := k5c5) (by decide +kernel) rfl rfl rfl (by decide +kernel)
set_option maxRecDepth 65536 in
theorem w_c23 : (Jvm.Cond.code ({ cls := "com/example/slackline/slackline/replay/Steps", name := "finishingAt", desc := "(JI)V" } : Jvm.MethodName) prog_99_method_22_code (5 : Nat) (Option.none : Option Jvm.ClassFile.FieldType)).before args0 about1 = true := code_word (m := ⟨5, 6⟩) (meth := k5m6) (c := k5c6) (by decide +kernel) rfl rfl rfl (by decide +kernel)
set_option maxRecDepth 65536 in
theorem w_c24 : (Jvm.Cond.code ({ cls := "com/example/slackline/slackline/replay/Plan", name := "touched", desc := "(JJ)V" } : Jvm.MethodName) prog_91_method_34_code (6 : Nat) (Option.none : Option Jvm.ClassFile.FieldType)).before args0 about1 = true := code_word (m := ⟨3, 4⟩) (meth := k3m4) (c := k3c4) (by decide +kernel) rfl rfl rfl (by decide +kernel)
set_option maxRecDepth 65536 in
theorem w_c25 : (Jvm.Cond.code ({ cls := "com/example/slackline/slackline/replay/Steps", name := "changed", desc := "(Lcom/example/slackline/slackline/replay/Steps$Chunk;)V" } : Jvm.MethodName) prog_99_method_38_code (1 : Nat) (Option.none : Option Jvm.ClassFile.FieldType)).before args0 about1 = true := code_word (m := ⟨5, 12⟩) (meth := k5m12) (c := k5c12) (by decide +kernel) rfl rfl rfl (by decide +kernel)
set_option maxRecDepth 65536 in
theorem w_c26 : (Jvm.Cond.code ({ cls := "com/example/slackline/slackline/replay/Steps", name := "addChunk", desc := "(ILcom/example/slackline/slackline/replay/Steps$Chunk;)V" } : Jvm.MethodName) prog_99_method_37_code (3 : Nat) (Option.none : Option Jvm.ClassFile.FieldType)).before args0 about1 = true := code_word (m := ⟨5, 11⟩) (meth := k5m11) (c := k5c11) (by decide +kernel) rfl rfl rfl (by decide +kernel)
set_option maxRecDepth 65536 in
theorem w_c27 : (Jvm.Cond.code ({ cls := "com/example/slackline/slackline/replay/Steps", name := "addUnits", desc := "(III[II)V" } : Jvm.MethodName) prog_99_method_33_code (16 : Nat) (Option.none : Option Jvm.ClassFile.FieldType)).before args0 about1 = true := code_word (m := ⟨5, 7⟩) (meth := k5m7) (c := k5c7) (by decide +kernel) rfl rfl rfl (by decide +kernel)
set_option maxRecDepth 65536 in
theorem w_c28 : (Jvm.Cond.code ({ cls := "com/example/slackline/slackline/replay/Plan", name := "untouchedSince", desc := "(JJJ)Z" } : Jvm.MethodName) prog_91_method_29_code (10 : Nat) (Option.some Jvm.ClassFile.FieldType.boolean)).before args0 about1 = true := code_word (m := ⟨3, 3⟩) (meth := k3m3) (c := k3c3) (by decide +kernel) rfl rfl rfl (by decide +kernel)
set_option maxRecDepth 65536 in
theorem w_c29 : (Jvm.Cond.code ({ cls := "com/example/slackline/slackline/replay/PlanUntouchedSincePinLaw", name := "shares", desc := "(JJJJ)Z" } : Jvm.MethodName) method_3_code (8 : Nat) (Option.some Jvm.ClassFile.FieldType.boolean)).before args0 about1 = true := code_word (m := ⟨1, 2⟩) (meth := k1m2) (c := k1c2) (by decide +kernel) rfl rfl rfl (by decide +kernel)
set_option maxRecDepth 65536 in
theorem w_c30 : (Jvm.Cond.code ({ cls := "com/example/slackline/slackline/replay/Plan", name := "version", desc := "()J" } : Jvm.MethodName) prog_91_method_28_code (1 : Nat) (Option.some Jvm.ClassFile.FieldType.long)).before args0 about1 = true := code_word (m := ⟨3, 2⟩) (meth := k3m2) (c := k3c2) (by decide +kernel) rfl rfl rfl (by decide +kernel)
def codes1 : List Jvm.Cond := [Jvm.Cond.code x code maxLocals ret, Jvm.Cond.code ({ cls := "java/lang/Math", name := "min", desc := "(JJ)J" } : Jvm.MethodName) jdk_29_method_70_code (4 : Nat) (Option.some Jvm.ClassFile.FieldType.long), Jvm.Cond.code ({ cls := "java/lang/Math", name := "max", desc := "(JJ)J" } : Jvm.MethodName) jdk_29_method_66_code (4 : Nat) (Option.some Jvm.ClassFile.FieldType.long), Jvm.Cond.code ({ cls := "com/example/slackline/slackline/replay/Plan", name := "<init>", desc := "([II)V" } : Jvm.MethodName) prog_91_method_2_code (3 : Nat) (Option.none : Option Jvm.ClassFile.FieldType), Jvm.Cond.code ({ cls := "java/lang/Object", name := "<init>", desc := "()V" } : Jvm.MethodName) object_method_1_code (1 : Nat) (Option.none : Option Jvm.ClassFile.FieldType), Jvm.Cond.code ({ cls := "com/example/slackline/slackline/replay/Steps", name := "<init>", desc := "([II)V" } : Jvm.MethodName) prog_99_method_4_code (4 : Nat) (Option.none : Option Jvm.ClassFile.FieldType), Jvm.Cond.code ({ cls := "java/lang/Math", name := "max", desc := "(II)I" } : Jvm.MethodName) jdk_29_method_65_code (2 : Nat) (Option.some Jvm.ClassFile.FieldType.int), Jvm.Cond.code ({ cls := "java/lang/Integer", name := "numberOfLeadingZeros", desc := "(I)I" } : Jvm.MethodName) jdk_33_method_47_code (2 : Nat) (Option.some Jvm.ClassFile.FieldType.int), Jvm.Cond.code ({ cls := "com/example/slackline/slackline/replay/Steps$Block", name := "<init>", desc := "(Lcom/example/slackline/slackline/replay/Steps;)V" } : Jvm.MethodName) prog_100_method_1_code (2 : Nat) (Option.none : Option Jvm.ClassFile.FieldType), Jvm.Cond.code ({ cls := "com/example/slackline/slackline/replay/Steps$Chunk", name := "<init>", desc := "(Lcom/example/slackline/slackline/replay/Steps;Lcom/example/slackline/slackline/replay/Steps$Block;)V" } : Jvm.MethodName) prog_101_method_1_code (3 : Nat) (Option.none : Option Jvm.ClassFile.FieldType), Jvm.Cond.code ({ cls := "com/example/slackline/slackline/replay/DraftSteps", name := "<init>", desc := "(I)V" } : Jvm.MethodName) prog_84_method_1_code (2 : Nat) (Option.none : Option Jvm.ClassFile.FieldType), Jvm.Cond.code ({ cls := "com/example/slackline/slackline/replay/Plan$Walk", name := "<init>", desc := "(Lcom/example/slackline/slackline/replay/Plan;)V" } : Jvm.MethodName) prog_94_method_1_code (2 : Nat) (Option.none : Option Jvm.ClassFile.FieldType), Jvm.Cond.code ({ cls := "com/example/slackline/slackline/replay/Steps", name := "floor", desc := "(J)Lcom/example/slackline/slackline/replay/Steps$Cursor;" } : Jvm.MethodName) prog_99_method_6_code (4 : Nat) (Option.some (Jvm.ClassFile.FieldType.object "com/example/slackline/slackline/replay/Steps$Cursor")), Jvm.Cond.code ({ cls := "com/example/slackline/slackline/replay/Steps", name := "chunkAt", desc := "(J)I" } : Jvm.MethodName) prog_99_method_34_code (5 : Nat) (Option.some Jvm.ClassFile.FieldType.int), Jvm.Cond.code ({ cls := "com/example/slackline/slackline/replay/Steps", name := "stepAt", desc := "(Lcom/example/slackline/slackline/replay/Steps$Chunk;J)I" } : Jvm.MethodName) prog_99_method_35_code (3 : Nat) (Option.some Jvm.ClassFile.FieldType.int), Jvm.Cond.code ({ cls := "com/example/slackline/slackline/replay/Steps", name := "lastAtOrBefore", desc := "([JIJ)I" } : Jvm.MethodName) prog_99_method_36_code (7 : Nat) (Option.some Jvm.ClassFile.FieldType.int), Jvm.Cond.code ({ cls := "com/example/slackline/slackline/replay/Steps$Cursor", name := "<init>", desc := "(Lcom/example/slackline/slackline/replay/Steps;II)V" } : Jvm.MethodName) prog_102_method_1_code (4 : Nat) (Option.none : Option Jvm.ClassFile.FieldType), Jvm.Cond.code ({ cls := "com/example/slackline/slackline/replay/Plan", name := "reserve", desc := "(JJ[I)V" } : Jvm.MethodName) prog_91_method_15_code (6 : Nat) (Option.none : Option Jvm.ClassFile.FieldType), Jvm.Cond.code ({ cls := "com/example/slackline/slackline/replay/Steps", name := "place", desc := "(JJ[II)V" } : Jvm.MethodName) prog_99_method_18_code (7 : Nat) (Option.none : Option Jvm.ClassFile.FieldType), Jvm.Cond.code ({ cls := "com/example/slackline/slackline/replay/Steps", name := "split", desc := "(J)V" } : Jvm.MethodName) prog_99_method_13_code (8 : Nat) (Option.none : Option Jvm.ClassFile.FieldType), Jvm.Cond.code ({ cls := "com/example/slackline/slackline/replay/Steps", name := "move", desc := "(Lcom/example/slackline/slackline/replay/Steps$Chunk;ILcom/example/slackline/slackline/replay/Steps$Chunk;II)V" } : Jvm.MethodName) prog_99_method_42_code (6 : Nat) (Option.none : Option Jvm.ClassFile.FieldType), Jvm.Cond.code ({ cls := "com/example/slackline/slackline/replay/Steps", name := "addBefore", desc := "(IIJ[II)V" } : Jvm.MethodName) prog_99_method_20_code (10 : Nat) (Option.none : Option Jvm.ClassFile.FieldType), Jvm.Cond.code ({ cls := "com/example/slackline/slackline/replay/Steps", name := "stepsBefore", desc := "(Lcom/example/slackline/slackline/replay/Steps$Chunk;J)I" } : Jvm.MethodName) prog_99_method_21_code (3 : Nat) (Option.some Jvm.ClassFile.FieldType.int), Jvm.Cond.code ({ cls := "com/example/slackline/slackline/replay/Steps", name := "finishingAt", desc := "(JI)V" } : Jvm.MethodName) prog_99_method_22_code (5 : Nat) (Option.none : Option Jvm.ClassFile.FieldType), Jvm.Cond.code ({ cls := "com/example/slackline/slackline/replay/Plan", name := "touched", desc := "(JJ)V" } : Jvm.MethodName) prog_91_method_34_code (6 : Nat) (Option.none : Option Jvm.ClassFile.FieldType), Jvm.Cond.code ({ cls := "com/example/slackline/slackline/replay/Steps", name := "changed", desc := "(Lcom/example/slackline/slackline/replay/Steps$Chunk;)V" } : Jvm.MethodName) prog_99_method_38_code (1 : Nat) (Option.none : Option Jvm.ClassFile.FieldType), Jvm.Cond.code ({ cls := "com/example/slackline/slackline/replay/Steps", name := "addChunk", desc := "(ILcom/example/slackline/slackline/replay/Steps$Chunk;)V" } : Jvm.MethodName) prog_99_method_37_code (3 : Nat) (Option.none : Option Jvm.ClassFile.FieldType), Jvm.Cond.code ({ cls := "com/example/slackline/slackline/replay/Steps", name := "addUnits", desc := "(III[II)V" } : Jvm.MethodName) prog_99_method_33_code (16 : Nat) (Option.none : Option Jvm.ClassFile.FieldType), Jvm.Cond.code ({ cls := "com/example/slackline/slackline/replay/Plan", name := "untouchedSince", desc := "(JJJ)Z" } : Jvm.MethodName) prog_91_method_29_code (10 : Nat) (Option.some Jvm.ClassFile.FieldType.boolean), Jvm.Cond.code ({ cls := "com/example/slackline/slackline/replay/PlanUntouchedSincePinLaw", name := "shares", desc := "(JJJJ)Z" } : Jvm.MethodName) method_3_code (8 : Nat) (Option.some Jvm.ClassFile.FieldType.boolean), Jvm.Cond.code ({ cls := "com/example/slackline/slackline/replay/Plan", name := "version", desc := "()J" } : Jvm.MethodName) prog_91_method_28_code (1 : Nat) (Option.some Jvm.ClassFile.FieldType.long)]
set_option maxRecDepth 65536 in
theorem codes_eq : words1.filter isCode = codes1 := rfl
theorem w_codes : ∀ c ∈ words1.filter isCode, c.before args0 about1 = true := by
  rw [codes_eq]
  intro c hc
  simp only [codes1, List.mem_cons, List.not_mem_nil, or_false] at hc
  rcases hc with rfl | rfl | rfl | rfl | rfl | rfl | rfl | rfl | rfl | rfl | rfl | rfl | rfl | rfl | rfl | rfl | rfl | rfl | rfl | rfl | rfl | rfl | rfl | rfl | rfl | rfl | rfl | rfl | rfl | rfl | rfl
  · exact w_c0
  · exact w_c1
  · exact w_c2
  · exact w_c3
  · exact w_c4
  · exact w_c5
  · exact w_c6
  · exact w_c7
  · exact w_c8
  · exact w_c9
  · exact w_c10
  · exact w_c11
  · exact w_c12
  · exact w_c13
  · exact w_c14
  · exact w_c15
  · exact w_c16
  · exact w_c17
  · exact w_c18
  · exact w_c19
  · exact w_c20
  · exact w_c21
  · exact w_c22
  · exact w_c23
  · exact w_c24
  · exact w_c25
  · exact w_c26
  · exact w_c27
  · exact w_c28
  · exact w_c29
  · exact w_c30
set_option maxRecDepth 65536 in
theorem w_t1 : (words1.take 24).all (fun c => isCode c || c.before args0 about1) = true := by decide +kernel
set_option maxRecDepth 65536 in
theorem w_t2 : ((words1.drop 24).take 24).all (fun c => isCode c || c.before args0 about1) = true := by decide +kernel
set_option maxRecDepth 65536 in
theorem w_t3 : (((words1.drop 24).drop 24).take 24).all (fun c => isCode c || c.before args0 about1) = true := by decide +kernel
set_option maxRecDepth 65536 in
theorem w_t4 : ((((words1.drop 24).drop 24).drop 24).take 24).all (fun c => isCode c || c.before args0 about1) = true := by decide +kernel
set_option maxRecDepth 65536 in
theorem w_t5 : (((((words1.drop 24).drop 24).drop 24).drop 24).take 24).all (fun c => isCode c || c.before args0 about1) = true := by decide +kernel
set_option maxRecDepth 65536 in
theorem w_t6 : ((((((words1.drop 24).drop 24).drop 24).drop 24).drop 24).take 24).all (fun c => isCode c || c.before args0 about1) = true := by decide +kernel
set_option maxRecDepth 65536 in
theorem w_t7 : (((((((words1.drop 24).drop 24).drop 24).drop 24).drop 24).drop 24).take 24).all (fun c => isCode c || c.before args0 about1) = true := by decide +kernel
set_option maxRecDepth 65536 in
theorem w_t8 : ((((((((words1.drop 24).drop 24).drop 24).drop 24).drop 24).drop 24).drop 24).take 24).all (fun c => isCode c || c.before args0 about1) = true := by decide +kernel
set_option maxRecDepth 65536 in
theorem w_t9 : (((((((((words1.drop 24).drop 24).drop 24).drop 24).drop 24).drop 24).drop 24).drop 24).take 24).all (fun c => isCode c || c.before args0 about1) = true := by decide +kernel
set_option maxRecDepth 65536 in
theorem w_t10 : ((((((((((words1.drop 24).drop 24).drop 24).drop 24).drop 24).drop 24).drop 24).drop 24).drop 24).take 24).all (fun c => isCode c || c.before args0 about1) = true := by decide +kernel
set_option maxRecDepth 65536 in
theorem w_t11 : (((((((((((words1.drop 24).drop 24).drop 24).drop 24).drop 24).drop 24).drop 24).drop 24).drop 24).drop 24).take 24).all (fun c => isCode c || c.before args0 about1) = true := by decide +kernel
set_option maxRecDepth 65536 in
theorem w_t12 : (((((((((((words1.drop 24).drop 24).drop 24).drop 24).drop 24).drop 24).drop 24).drop 24).drop 24).drop 24).drop 24).all (fun c => isCode c || c.before args0 about1) = true := by decide +kernel
theorem w_tables : (allAtoms (Jvm.Cond.code x code maxLocals ret :: tables_1)).before args0 about1 = true := by
  rw [allAtoms_all]
  show words1.all (fun c => c.before args0 about1) = true
  refine all_split ?_ w_codes
  rw [← List.take_append_drop 24 words1, List.all_append, w_t1, ← List.take_append_drop 24 (words1.drop 24), List.all_append, w_t2, ← List.take_append_drop 24 ((words1.drop 24).drop 24), List.all_append, w_t3, ← List.take_append_drop 24 (((words1.drop 24).drop 24).drop 24), List.all_append, w_t4, ← List.take_append_drop 24 ((((words1.drop 24).drop 24).drop 24).drop 24), List.all_append, w_t5, ← List.take_append_drop 24 (((((words1.drop 24).drop 24).drop 24).drop 24).drop 24), List.all_append, w_t6, ← List.take_append_drop 24 ((((((words1.drop 24).drop 24).drop 24).drop 24).drop 24).drop 24), List.all_append, w_t7, ← List.take_append_drop 24 (((((((words1.drop 24).drop 24).drop 24).drop 24).drop 24).drop 24).drop 24), List.all_append, w_t8, ← List.take_append_drop 24 ((((((((words1.drop 24).drop 24).drop 24).drop 24).drop 24).drop 24).drop 24).drop 24), List.all_append, w_t9, ← List.take_append_drop 24 (((((((((words1.drop 24).drop 24).drop 24).drop 24).drop 24).drop 24).drop 24).drop 24).drop 24), List.all_append, w_t10, ← List.take_append_drop 24 ((((((((((words1.drop 24).drop 24).drop 24).drop 24).drop 24).drop 24).drop 24).drop 24).drop 24).drop 24), List.all_append, w_t11, w_t12]
  rfl
set_option maxRecDepth 65536 in
theorem w_case : (Jvm.Cond.and given_1 narrow_1).before args0 about1 = true := by decide +kernel
theorem w_applies : (headSpec (Jvm.Cond.code x code maxLocals ret :: tables_1) room_1).applies x e0.platform about1 = true :=
  (Spec.applies_iff w_frames).mpr ⟨w_running, w_runnable, w_alone, w_named, w_hears, w_ripe, w_room, w_tables⟩
theorem atStart : AtStart classFile x code maxLocals ret World_1 tables_1 room_1 Calls_1 rest_1 Pre_1 launch0 p0 e0 about1 theMethod args0 below0 :=
  ⟨lists_1, trivial, launch0.admits_env _ _ _, launch0.least_env, fairChoices_fair.cas, fairChoices_fair.clock, w_frames, w_args, w_heap, w_applies, trivial, trivial, w_case⟩
end start1
theorem witness_1 : WitnessClaimed_1 := ⟨start1.p0, start1.e0, start1.about1, start1.theMethod, start1.args0, start1.below0, start1.atStart⟩
end Jvm.Pilot.@@N@@
