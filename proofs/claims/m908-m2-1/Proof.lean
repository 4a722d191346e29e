import JvmDerived
import JvmDerived.Pilot.@@N@@Statement
import JvmDerived.Pilot.@@N@@Code
set_option linter.unusedVariables false
set_option linter.unusedSimpArgs false

namespace Jvm.RoadKit
open Sem ClassFile Op Lib Jvm.Stand Jvm.Free Jvm.LawKit
section New
variable {p : Program} {l : Launch} {e : Env} {R : Room} {s : State} {m : MethodId} {args : Array Value} {below : List Frame} {meth : Method} {c : Code} {T : State} {locs : List Loc} {cells slots : Nat}
theorem retI (X : Stand p l e R s m args below meth c T locs cells slots) (hx : p.tables.exec = Jvm.exec) {pc : Nat} {Ls : Array Slot} {z : Int32} {rest : List Value} (hret : meth.sig.returnType = some .int) (hd : decode c.code pc = .ok (.ireturn, 1)) {fs : List Frame}
    (hl : ∀ (f : JFrame) (acts : List Action), f.method = m → f.locked = none → f.entered = [] → (doReturn e (T.setTop f) acts (some (.int z))).1 = T.setFrames fs) : Steps p.tables e below (T.setTop (mkF m pc Ls (.int z :: rest))) (T.setFrames fs) := by
  have hm' : T.vm.method? m = some meth := X.method'
  have hn : narrow .int (.int z) = .int z := rfl
  show Steps p.tables e below (T.setTop { method := m, pc := pc, locals := Ls, stack := _ :: rest, locked := none }) _
  jvm_step X.here [X.here.top, hx, hd, hm', hret, hn]
  first | (intro acts; rw [hl _ acts rfl rfl rfl]) | rw [hl _ _ rfl rfl rfl]
  exact Steps.refl _
end New
end Jvm.RoadKit
namespace Jvm.Pilot.@@N@@
open Jvm Jvm.ClassFile Sem Op Lib Jvm.Free Jvm.Stand Jvm.LawKit Jvm.RoadKit Bundle Jvm.Pilot.@@N@@.Jvm.D
abbrev c_0 : String := "com/example/slackline/slackline/workload/Farm$Machine"
abbrev y_0 : MethodName := ⟨"java/lang/Record", "<init>", "()V"⟩
abbrev y_1 : MethodName := ⟨"com/example/slackline/slackline/workload/MachineListsPinLaw", "make", "(IIII)[I"⟩
abbrev y_2 : MethodName := ⟨"com/example/slackline/slackline/workload/Farm$Machine", "<init>", "(JJ[I[I)V"⟩
abbrev y_3 : MethodName := ⟨"com/example/slackline/slackline/workload/MachineListsPinLaw", "has", "(IIIII)Z"⟩
abbrev y_4 : MethodName := ⟨"com/example/slackline/slackline/workload/Farm$Machine", "lists", "([I)Z"⟩
abbrev own_zl (n : Nat) : List Value := List.replicate n (.long (0 : Int64))
abbrev own_zi (n : Nat) : List Value := List.replicate n (.int (0 : Int32))
abbrev own_zr (n : Nat) : List Value := List.replicate n .null
abbrev vi (x : Int32) : Slot := .val (.int x)
abbrev vj (x : Int64) : Slot := .val (.long x)
abbrev vr (x : Addr) : Slot := .val (.ref x)
section Steps
variable {p : Program} {l : Launch} {e : Env} {R : Room} {s : State} {m : MethodId} {args : Array Value} {below : List Frame} {meth : Method} {c : Code} {T : State} {locs : List Loc} {cells slots : Nat} {pc pc' : Nat} {Ls L' : Array Slot} {S : List Value} {t : State} {Z : State} {h : Heap} {a : Addr} {cl : Cell}
abbrev Go (p : Program) (e : Env) (below : List Frame) (T0 : State) (g0 : JFrame) (T : State) (g : JFrame) : Prop := ∀ t, Steps p.tables e below (T.setTop g) t → Steps p.tables e below (T0.setTop g0) t
theorem own_w {Z : State} {a0 : Array Value} (hw : ∀ d ∈ tables_1, d.before a0 Z = true) (k : Nat) {d : Jvm.Cond} (h : tables_1[k]? = some d) : d.before a0 Z = true := hw _ (List.mem_of_getElem? h)
theorem o_iloadN (X : Stand p l e R s m args below meth c T locs cells slots) (hx : p.tables.exec = Jvm.exec) {i : Fin 4} {v : Int32} (hd : decode c.code pc = .ok (.iload_n i, 1)) (hl : Ls[i.val]? = some (.val (.int v))) (k : Steps p.tables e below (T.setTop (mkF m (pc + 1) Ls (.int v :: S))) t) : Steps p.tables e below (T.setTop (mkF m pc Ls (S))) t := XS.iloadN X.here hx rfl hd hl k
theorem o_iload (X : Stand p l e R s m args below meth c T locs cells slots) (hx : p.tables.exec = Jvm.exec) {i : Nat} {v : Int32} (hd : decode c.code pc = .ok (.iload i, 2)) (hl : Ls[i]? = some (.val (.int v))) (k : Steps p.tables e below (T.setTop (mkF m (pc + 2) Ls (.int v :: S))) t) : Steps p.tables e below (T.setTop (mkF m pc Ls (S))) t := XS.iload X.here hx rfl hd hl k
theorem o_lloadN (X : Stand p l e R s m args below meth c T locs cells slots) (hx : p.tables.exec = Jvm.exec) {i : Fin 4} {v : Int64} (hd : decode c.code pc = .ok (.lload_n i, 1)) (hl : Ls[i.val]? = some (.val (.long v))) (k : Steps p.tables e below (T.setTop (mkF m (pc + 1) Ls (.long v :: S))) t) : Steps p.tables e below (T.setTop (mkF m pc Ls (S))) t := XS.lloadN X.here hx rfl hd hl k
theorem o_aloadN (X : Stand p l e R s m args below meth c T locs cells slots) (hx : p.tables.exec = Jvm.exec) {i : Fin 4} {v : Value} (hd : decode c.code pc = .ok (.aload_n i, 1)) (hl : Ls[i.val]? = some (.val v)) (hv : v.isRef = true) (k : Steps p.tables e below (T.setTop (mkF m (pc + 1) Ls (v :: S))) t) : Steps p.tables e below (T.setTop (mkF m pc Ls (S))) t := XS.aloadN X.here hx rfl hd hl hv k
theorem o_aload (X : Stand p l e R s m args below meth c T locs cells slots) (hx : p.tables.exec = Jvm.exec) {i : Nat} {v : Value} (hd : decode c.code pc = .ok (.aload i, 2)) (hl : Ls[i]? = some (.val v)) (hv : v.isRef = true) (k : Steps p.tables e below (T.setTop (mkF m (pc + 2) Ls (v :: S))) t) : Steps p.tables e below (T.setTop (mkF m pc Ls (S))) t := XS.aload X.here hx rfl hd hl hv k
theorem o_istoreN (X : Stand p l e R s m args below meth c T locs cells slots) (hx : p.tables.exec = Jvm.exec) {i : Fin 4} {v : Int32} (hd : decode c.code pc = .ok (.istore_n i, 1)) (hl : storeLocals Ls i.val (.int v) = some L') (k : Steps p.tables e below (T.setTop (mkF m (pc + 1) L' (S))) t) : Steps p.tables e below (T.setTop (mkF m pc Ls (.int v :: S))) t := XS.istoreN X.here hx rfl hd rfl hl k
theorem o_istore (X : Stand p l e R s m args below meth c T locs cells slots) (hx : p.tables.exec = Jvm.exec) {i : Nat} {v : Int32} (hd : decode c.code pc = .ok (.istore i, 2)) (hl : storeLocals Ls i (.int v) = some L') (k : Steps p.tables e below (T.setTop (mkF m (pc + 2) L' (S))) t) : Steps p.tables e below (T.setTop (mkF m pc Ls (.int v :: S))) t := XS.istore X.here hx rfl hd rfl hl k
theorem o_astoreN (X : Stand p l e R s m args below meth c T locs cells slots) (hx : p.tables.exec = Jvm.exec) {i : Fin 4} {v : Value} (hd : decode c.code pc = .ok (.astore_n i, 1)) (hv : v.isRef = true) (hl : storeLocals Ls i.val v = some L') (k : Steps p.tables e below (T.setTop (mkF m (pc + 1) L' (S))) t) : Steps p.tables e below (T.setTop (mkF m pc Ls (v :: S))) t := XS.astoreN X.here hx rfl hd rfl hv hl k
theorem o_astore (X : Stand p l e R s m args below meth c T locs cells slots) (hx : p.tables.exec = Jvm.exec) {i : Nat} {v : Value} (hd : decode c.code pc = .ok (.astore i, 2)) (hv : v.isRef = true) (hl : storeLocals Ls i v = some L') (k : Steps p.tables e below (T.setTop (mkF m (pc + 2) L' (S))) t) : Steps p.tables e below (T.setTop (mkF m pc Ls (v :: S))) t := XS.astore X.here hx rfl hd rfl hv hl k
theorem o_iconst (X : Stand p l e R s m args below meth c T locs cells slots) (hx : p.tables.exec = Jvm.exec) {i : Int} {v : Int32} (hd : decode c.code pc = .ok (.iconst i, 1)) (hv : v = Int32.ofInt i) (k : Steps p.tables e below (T.setTop (mkF m (pc + 1) Ls (.int v :: S))) t) : Steps p.tables e below (T.setTop (mkF m pc Ls (S))) t := XS.iconst X.here hx rfl hd (hv ▸ k)
theorem o_bipush (X : Stand p l e R s m args below meth c T locs cells slots) (hx : p.tables.exec = Jvm.exec) {i : Int} {v : Int32} (hd : decode c.code pc = .ok (.bipush i, 2)) (hv : v = (Int8.ofInt i).toInt32) (k : Steps p.tables e below (T.setTop (mkF m (pc + 2) Ls (.int v :: S))) t) : Steps p.tables e below (T.setTop (mkF m pc Ls (S))) t := XS.bipush X.here hx rfl hd (hv ▸ k)
theorem o_lconst (X : Stand p l e R s m args below meth c T locs cells slots) (hx : p.tables.exec = Jvm.exec) {i : Fin 2} {v : Int64} (hd : decode c.code pc = .ok (.lconst i, 1)) (hv : v = Int64.ofNat i) (k : Steps p.tables e below (T.setTop (mkF m (pc + 1) Ls (.long v :: S))) t) : Steps p.tables e below (T.setTop (mkF m pc Ls (S))) t := XS.lconst X.here hx rfl hd (hv ▸ k)
theorem o_ldc2 (X : Stand p l e R s m args below meth c T locs cells slots) (hx : p.tables.exec = Jvm.exec) {own : String} {i : Nat} {v : Int64} (ho : s.vm.findClass own = some m.cls) (w : (Cond.constantLong own i v).before args s = true) (hd : decode c.code pc = .ok (.ldc2_w i, 3))  (k : Steps p.tables e below (T.setTop (mkF m (pc + 3) Ls (.long v :: S))) t) : Steps p.tables e below (T.setTop (mkF m pc Ls (S))) t := X.ldc2Long hx ho w (g := mkF m pc Ls S) rfl hd _ k
theorem o_iadd (X : Stand p l e R s m args below meth c T locs cells slots) (hx : p.tables.exec = Jvm.exec) {x y : Int32} (hd : decode c.code pc = .ok (.iadd, 1))  (k : Steps p.tables e below (T.setTop (mkF m (pc + 1) Ls (.int (x + y) :: S))) t) : Steps p.tables e below (T.setTop (mkF m pc Ls (.int y :: .int x :: S))) t := XS.iadd X.here hx rfl hd rfl k
theorem o_iand (X : Stand p l e R s m args below meth c T locs cells slots) (hx : p.tables.exec = Jvm.exec) {x y : Int32} (hd : decode c.code pc = .ok (.iand, 1))  (k : Steps p.tables e below (T.setTop (mkF m (pc + 1) Ls (.int (x &&& y) :: S))) t) : Steps p.tables e below (T.setTop (mkF m pc Ls (.int y :: .int x :: S))) t := XS.iand X.here hx rfl hd rfl k
theorem o_ishr (X : Stand p l e R s m args below meth c T locs cells slots) (hx : p.tables.exec = Jvm.exec) {x : Int32} {y : Int32} (hd : decode c.code pc = .ok (.ishr, 1))  (k : Steps p.tables e below (T.setTop (mkF m (pc + 1) Ls (.int (x >>> (y &&& 31)) :: S))) t) : Steps p.tables e below (T.setTop (mkF m pc Ls (.int y :: .int x :: S))) t := XS.ishr X.here hx rfl hd rfl k
theorem o_iushr (X : Stand p l e R s m args below meth c T locs cells slots) (hx : p.tables.exec = Jvm.exec) {x : Int32} {y : Int32} (hd : decode c.code pc = .ok (.iushr, 1))  (k : Steps p.tables e below (T.setTop (mkF m (pc + 1) Ls (.int ((x.toUInt32 >>> (y &&& 31).toUInt32).toInt32) :: S))) t) : Steps p.tables e below (T.setTop (mkF m pc Ls (.int y :: .int x :: S))) t := XS.iushr X.here hx rfl hd rfl k
theorem o_iinc (X : Stand p l e R s m args below meth c T locs cells slots) (hx : p.tables.exec = Jvm.exec) {i : Nat} {cst : Int} {x : Int32} (hd : decode c.code pc = .ok (.iinc i cst, 3)) (hl : Ls[i]? = some (.val (.int x))) (hl' : storeLocals Ls i (.int (x + Int32.ofInt cst)) = some L') (k : Steps p.tables e below (T.setTop (mkF m (pc + 3) L' (S))) t) : Steps p.tables e below (T.setTop (mkF m pc Ls (S))) t := XS.iinc X.here hx rfl hd hl hl' k
theorem o_dup (X : Stand p l e R s m args below meth c T locs cells slots) (hx : p.tables.exec = Jvm.exec) {x : Value} (hd : decode c.code pc = .ok (.dup, 1)) (hc : x.category = 1) (k : Steps p.tables e below (T.setTop (mkF m (pc + 1) Ls (x :: x :: S))) t) : Steps p.tables e below (T.setTop (mkF m pc Ls (x :: S))) t := XS.dup X.here hx rfl hd rfl hc k
theorem o_goto (X : Stand p l e R s m args below meth c T locs cells slots) (hx : p.tables.exec = Jvm.exec) {o : Int} (hd : decode c.code pc = .ok (.goto o, 3)) (hp : ((pc : Int) + o).toNat = pc') (ho : 0 ≤ (pc : Int) + o) (k : Steps p.tables e below (T.setTop (mkF m (pc') Ls (S))) t) : Steps p.tables e below (T.setTop (mkF m pc Ls (S))) t := XS.goto X.here hx rfl rfl hd ho hp k
theorem o_ifYes (X : Stand p l e R s m args below meth c T locs cells slots) (hx : p.tables.exec = Jvm.exec) {cd : ClassFile.Cond} {x : Int32} {o : Int} (hd : decode c.code pc = .ok (.ifCond cd o, 3)) (hp : ((pc : Int) + o).toNat = pc') (ho : 0 ≤ (pc : Int) + o) (hc : ifCond.holds cd x = true) (k : Steps p.tables e below (T.setTop (mkF m (pc') Ls (S))) t) : Steps p.tables e below (T.setTop (mkF m pc Ls (.int x :: S))) t := XS.ifYes X.here hx rfl rfl hd rfl hc ho hp k
theorem o_ifNo (X : Stand p l e R s m args below meth c T locs cells slots) (hx : p.tables.exec = Jvm.exec) {cd : ClassFile.Cond} {x : Int32} {o : Int} (hd : decode c.code pc = .ok (.ifCond cd o, 3)) (hc : ifCond.holds cd x = false) (k : Steps p.tables e below (T.setTop (mkF m (pc + 3) Ls (S))) t) : Steps p.tables e below (T.setTop (mkF m pc Ls (.int x :: S))) t := XS.ifNo X.here hx rfl hd rfl hc k
theorem o_icmpYes (X : Stand p l e R s m args below meth c T locs cells slots) (hx : p.tables.exec = Jvm.exec) {cd : ClassFile.Cond} {x y : Int32} {o : Int} (hd : decode c.code pc = .ok (.if_icmp cd o, 3)) (hp : ((pc : Int) + o).toNat = pc') (ho : 0 ≤ (pc : Int) + o) (hc : if_icmp.holds cd x y = true) (k : Steps p.tables e below (T.setTop (mkF m (pc') Ls (S))) t) : Steps p.tables e below (T.setTop (mkF m pc Ls (.int y :: .int x :: S))) t := XS.icmpYes X.here hx rfl rfl hd rfl hc ho hp k
theorem o_icmpNo (X : Stand p l e R s m args below meth c T locs cells slots) (hx : p.tables.exec = Jvm.exec) {cd : ClassFile.Cond} {x y : Int32} {o : Int} (hd : decode c.code pc = .ok (.if_icmp cd o, 3)) (hc : if_icmp.holds cd x y = false) (k : Steps p.tables e below (T.setTop (mkF m (pc + 3) Ls (S))) t) : Steps p.tables e below (T.setTop (mkF m pc Ls (.int y :: .int x :: S))) t := XS.icmpNo X.here hx rfl hd rfl hc k
theorem o_len (X : Stand p l e R s m args below meth c T locs cells slots) (hx : p.tables.exec = Jvm.exec) (hZ : Z.Warmed39 s.vm) (eT : T.heap = h) {ty : FieldType} {z : Int32} (A : Arr Z h a cl ty) (Sz : cl.slots.size = z.toNatClampNeg) (Nn : ¬ z < 0) (hd : decode c.code pc = .ok (.arraylength, 1))  (k : Steps p.tables e below (T.setTop (mkF m (pc + 1) Ls (.int z :: S))) t) : Steps p.tables e below (T.setTop (mkF m pc Ls (.ref a :: S))) t := X.arraylength hx (by rw [eT]; exact A.1) (State.isArrayOf_alike hZ.alike A.2.1) (g := mkF m pc Ls (.ref a :: S)) rfl rfl hd _ (by rw [len_of Sz Nn]; exact k)
theorem o_iaload (X : Stand p l e R s m args below meth c T locs cells slots) (hx : p.tables.exec = Jvm.exec) (hZ : Z.Warmed39 s.vm) (eT : T.heap = h) {j : Int32} {v : Int32} (A : Arr Z h a cl .int) (hin : ¬ (j < 0 ∨ cl.slots.size ≤ j.toNatClampNeg)) (hat : cl.slots[j.toNatClampNeg]? = some (.int v)) (hd : decode c.code pc = .ok (.iaload, 1))  (k : Steps p.tables e below (T.setTop (mkF m (pc + 1) Ls (.int v :: S))) t) : Steps p.tables e below (T.setTop (mkF m pc Ls (.int j :: .ref a :: S))) t := X.iaload hx (j := j) (v := .int v) (by rw [eT]; exact A.1) (State.isArrayOf_alike hZ.alike A.2.1) A.2.2 hin hat (g := mkF m pc Ls (.int j :: .ref a :: S)) rfl rfl hd _ k
end Steps
theorem d3_0 : decode jdk_30_method_1_code 0 = .ok (.aload_n 0, 1) := by decide +kernel
theorem d3_1 : decode jdk_30_method_1_code 1 = .ok (.invokespecial 1, 3) := by decide +kernel
theorem d3_4 : decode jdk_30_method_1_code 4 = .ok (.return_, 1) := by decide +kernel
theorem pn_3 : plainName "java/lang/Record" = true := by first | (simp [plainName, overriddenIn]; done) | decide +kernel
theorem ef_3 (m : MethodId) (x0 : Addr) : entryFrame m #[(.ref x0)] 1 = mkF m 0 #[vr x0] [] := by first | (simp [entryFrame, mkF, argsToLocals, Value.category]; done) | rfl
def Q3 (Z : State) (a1 : Addr) (h0 : Heap) (n0 : Nat) (v : Option Value) (h : Heap) (L : List Loc) : Prop := v = none ∧ Fr n0 L ∧ h = h0
set_option maxRecDepth 65536 in
set_option maxHeartbeats 40000000 in
theorem rm3 (l : Launch) (Z : State) (a0 : Array Value) (hw : ∀ d ∈ tables_1, d.before a0 Z = true) (ws : List Jvm.Cond) (a1 : Addr) (h0 : Heap) (n0 : Nat) (Z0 : n0 ≤ h0.size) :
    MetFree l y_0 (head1 (Jvm.Cond.code y_0 jdk_30_method_1_code 1 none :: ws) ({ frames := 1, cells := 0, slots := 0, locals := 12 } : Room)) (fun a U => a = #[(.ref a1)] ∧ Z.Warmed39 U.vm ∧ U.heap = h0) (fun _ _ _ _ _ => True) (fun _ U o U' => ∃ v L, o = .returned v ∧ Q3 Z a1 h0 n0 v U'.heap L ∧ FrameEnd U o U' L ({ frames := 1, cells := 0, slots := 0, locals := 12 } : Room).cells ({ frames := 1, cells := 0, slots := 0, locals := 12 } : Room).slots) := by
  refine MetFree.of_bodySF (plainFor_of_name pn_3) hisR ?_
  intro p e s m args below meth c s₁ Bd hml0 hP hK
  obtain ⟨rfl, hZ, hh⟩ := hP
  have hx := Bd.exec
  have hby := Bd.bytes
  have hml : c.maxLocals = 1 := hml0
  have hown : s.vm.findClass "java/lang/Record" = some m.cls := findClass_of_methodNamed Bd.named
  have hnm := (name_of_methodNamed Bd.named Bd.method).1
  have X0 : Stand p l e ({ frames := 1, cells := 0, slots := 0, locals := 12 } : Room) s m #[(.ref a1)] below meth c s₁ [] 0 0 := Stand.of_body Bd
  have e0 : s₁.heap = h0 := by rw [← hh, Bd.state]; rfl
  have N0 := Fr.nil n0
  obtain ⟨F0, hF0⟩ : ∃ F : JFrame, F = entryFrame m #[(.ref a1)] 1 := ⟨_, rfl⟩
  have pre0 : ∀ t, Steps p.tables e below (s₁.setTop F0) t → Steps p.tables e below (s₁.setTop (entryFrame m #[(.ref a1)] 1)) t := fun t k => hF0 ▸ k
  have go0 : Go p e below s₁ F0 s₁ (mkF m 0 #[vr a1] []) := fun t k => castTop (hF0.trans (ef_3 m a1)) k
  have go1 : Go p e below s₁ F0 s₁ (mkF m 1 #[vr a1] [(.ref a1)]) := by
    intro t_ k_
    refine go0 t_ ?_
    refine o_aloadN X0 hx (hb hby d3_0) rfl rfl ?_
    exact k_
  obtain ⟨T2, X2, e2, st2⟩ := initO X0 hx hZ hown (own_w hw 17 rfl) (own_w hw 18 rfl) (own_w hw 19 rfl) e0 (g := (mkF m 1 #[vr a1] [(.ref a1)])) rfl (by rw [hml]; rfl) rfl (hb hby d3_1) (by decide) (W := 0) (by show 2 * 0 + _ ≤ _; exact Nat.le_of_eq rfl) (by decide)
  have go3 : Go p e below s₁ F0 T2 (mkF m 4 #[vr a1] []) := fun t_ k_ => go1 t_ (st2 t_ k_)
  obtain ⟨fs, hr, hrun, hended, hW, hsame⟩ := X2.leave (v := none) (fun _ => rfl)
  refine ⟨_, _, pre0 _ (go3 _ ?_), hrun, hended, _, _, rfl, ?_, ⟨_, rfl⟩, hW, hsame.mono (by decide) (by decide)⟩
  · skip
    exact X2.returnOut hx Bd.returns (hb hby d3_4) hr
  · show Q3 Z a1 h0 n0 _ T2.heap _
    rw [e2]
    exact ⟨rfl, N0, rfl⟩

theorem d1_0 : decode method_2_code 0 = .ok (.iload_n 0, 1) := by decide +kernel
theorem d1_1 : decode method_2_code 1 = .ok (.ifCond .ne 7, 3) := by decide +kernel
theorem d1_4 : decode method_2_code 4 = .ok (.iconst 0, 1) := by decide +kernel
theorem d1_5 : decode method_2_code 5 = .ok (.newarray .int, 2) := by decide +kernel
theorem d1_7 : decode method_2_code 7 = .ok (.areturn, 1) := by decide +kernel
theorem pn_1_0 : plainName "com/example/slackline/slackline/workload/MachineListsPinLaw" = true := by first | (simp [plainName, overriddenIn]; done) | decide +kernel
theorem ef_1_0 (m : MethodId) (x1 : Int32) (x2 : Int32) (x3 : Int32) : entryFrame m #[(.int (0 : Int32)), (.int x1), (.int x2), (.int x3)] 4 = mkF m 0 #[vi (0 : Int32), vi x1, vi x2, vi x3] [] := by first | (simp [entryFrame, mkF, argsToLocals, Value.category]; done) | rfl
def Q1_0 (Z : State) (p2 : Int32) (p3 : Int32) (p4 : Int32) (h0 : Heap) (n0 : Nat) (v : Option Value) (h : Heap) (L : List Loc) : Prop := ∃ b : Addr, ∃ kb : ClassId, v = some (.ref b) ∧ Fr n0 L ∧ Keep h0 h [] ∧ h0.size ≤ b ∧ Arv Z h b kb .int (0 : Int32) [] (.int (0 : Int32))
set_option maxRecDepth 65536 in
set_option maxHeartbeats 40000000 in
theorem rm1_0 (l : Launch) (Z : State) (a0 : Array Value) (hw : ∀ d ∈ tables_1, d.before a0 Z = true) (ws : List Jvm.Cond) (p2 : Int32) (p3 : Int32) (p4 : Int32) (h0 : Heap) (n0 : Nat) (Z0 : n0 ≤ h0.size) :
    MetFree l y_1 (head1 (Jvm.Cond.code y_1 method_2_code 4 (some (.array .int)) :: ws) ({ frames := 0, cells := 1, slots := 0, locals := 0 } : Room)) (fun a U => a = #[(.int (0 : Int32)), (.int p2), (.int p3), (.int p4)] ∧ Z.Warmed39 U.vm ∧ U.heap = h0) (fun _ _ _ _ _ => True) (fun _ U o U' => ∃ v L, o = .returned v ∧ Q1_0 Z p2 p3 p4 h0 n0 v U'.heap L ∧ FrameEnd U o U' L ({ frames := 0, cells := 1, slots := 0, locals := 0 } : Room).cells ({ frames := 0, cells := 1, slots := 0, locals := 0 } : Room).slots) := by
  refine MetFree.of_bodySF (plainFor_of_name pn_1_0) hisR ?_
  intro p e s m args below meth c s₁ Bd hml0 hP hK
  obtain ⟨rfl, hZ, hh⟩ := hP
  have hx := Bd.exec
  have hby := Bd.bytes
  have hml : c.maxLocals = 4 := hml0
  have hown : s.vm.findClass "com/example/slackline/slackline/workload/MachineListsPinLaw" = some m.cls := findClass_of_methodNamed Bd.named
  have hnm := (name_of_methodNamed Bd.named Bd.method).1
  have X0 : Stand p l e ({ frames := 0, cells := 1, slots := 0, locals := 0 } : Room) s m #[(.int (0 : Int32)), (.int p2), (.int p3), (.int p4)] below meth c s₁ [] 0 0 := Stand.of_body Bd
  have e0 : s₁.heap = h0 := by rw [← hh, Bd.state]; rfl
  have N0 := Fr.nil n0
  have K0 : Keep h0 h0 [] := Keep.refl h0 []
  obtain ⟨F0, hF0⟩ : ∃ F : JFrame, F = entryFrame m #[(.int (0 : Int32)), (.int p2), (.int p3), (.int p4)] 4 := ⟨_, rfl⟩
  have pre0 : ∀ t, Steps p.tables e below (s₁.setTop F0) t → Steps p.tables e below (s₁.setTop (entryFrame m #[(.int (0 : Int32)), (.int p2), (.int p3), (.int p4)] 4)) t := fun t k => hF0 ▸ k
  have go0 : Go p e below s₁ F0 s₁ (mkF m 0 #[vi (0 : Int32), vi p2, vi p3, vi p4] []) := fun t k => castTop (hF0.trans (ef_1_0 m p2 p3 p4)) k
  have go1 : Go p e below s₁ F0 s₁ (mkF m 5 #[vi (0 : Int32), vi p2, vi p3, vi p4] [(.int (0 : Int32))]) := by
    intro t_ k_
    refine go0 t_ ?_
    refine o_iloadN X0 hx (hb hby d1_0) rfl ?_
    refine o_ifNo X0 hx (hb hby d1_1) ((if0 _ _).trans (teq (by decide : (0 : Int32) = (0 : Int32))).2) ?_
    refine o_iconst X0 hx (hb hby d1_4) (v := 0) rfl ?_
    exact k_
  obtain ⟨T2, h2, k2, X2, e2, E2, A2, st2⟩ := newP X0 hx hZ (own_w hw 4 rfl) e0 (g := (mkF m 5 #[vi (0 : Int32), vi p2, vi p3, vi p4] [(.int (0 : Int32))])) rfl (hb hby d1_5) rfl (by decide) (cap := 0) (by decide) (by decide) (by decide) (by decide)
  obtain ⟨b2, gz2⟩ : ∃ z, z = h0.size := ⟨_, rfl⟩
  rw [← gz2] at A2 st2
  have g_b2 : n0 ≤ b2 := Nat.le_trans Z0 (Nat.le_of_eq gz2.symm)
  have sz_b2 : h0.size ≤ b2 := Nat.le_trans K0.1 (Nat.le_of_eq gz2.symm)
  have K3 : Keep h0 h2 [] := K0.ext E2
  have Z3 : n0 ≤ h2.size := Nat.le_trans Z0 E2.1
  have V2 : Arv Z h2 b2 k2 .int (0 : Int32) [] (.int (0 : Int32)) := (Arv.new A2 (by decide)).pad (pad_rep [] (.int (0 : Int32)) 0)
  have go4 : Go p e below s₁ F0 T2 (mkF m 7 #[vi (0 : Int32), vi p2, vi p3, vi p4] [(.ref b2)]) := fun t_ k_ => go1 t_ (st2 t_ k_)
  obtain ⟨fs, hr, hrun, hended, hW, hsame⟩ := X2.leave (v := some (.ref b2)) (fun h => by rw [Bd.returns] at h; cases h)
  refine ⟨_, _, pre0 _ (go4 _ ?_), hrun, hended, _, _, rfl, ?_, ⟨_, rfl⟩, hW, hsame.mono (by decide) (by decide)⟩
  · skip
    exact retOut X2 hx Bd.returns rfl (Or.inr (Or.inr (Or.inr (Or.inr ⟨rfl, rfl, rfl⟩)))) (hb hby d1_7) hr
  · show Q1_0 Z p2 p3 p4 h0 n0 _ T2.heap _
    rw [e2]
    exact ⟨b2, k2, rfl, N0, K3, sz_b2, V2⟩

theorem d1_8 : decode method_2_code 8 = .ok (.iload_n 0, 1) := by decide +kernel
theorem d1_9 : decode method_2_code 9 = .ok (.iconst 1, 1) := by decide +kernel
theorem d1_10 : decode method_2_code 10 = .ok (.if_icmp .ne 11, 3) := by decide +kernel
theorem d1_13 : decode method_2_code 13 = .ok (.iconst 1, 1) := by decide +kernel
theorem d1_14 : decode method_2_code 14 = .ok (.newarray .int, 2) := by decide +kernel
theorem d1_16 : decode method_2_code 16 = .ok (.dup, 1) := by decide +kernel
theorem d1_17 : decode method_2_code 17 = .ok (.iconst 0, 1) := by decide +kernel
theorem d1_18 : decode method_2_code 18 = .ok (.iload_n 1, 1) := by decide +kernel
theorem d1_19 : decode method_2_code 19 = .ok (.iastore, 1) := by decide +kernel
theorem d1_20 : decode method_2_code 20 = .ok (.areturn, 1) := by decide +kernel
theorem pn_1_1 : plainName "com/example/slackline/slackline/workload/MachineListsPinLaw" = true := by first | (simp [plainName, overriddenIn]; done) | decide +kernel
theorem ef_1_1 (m : MethodId) (x1 : Int32) (x2 : Int32) (x3 : Int32) : entryFrame m #[(.int (1 : Int32)), (.int x1), (.int x2), (.int x3)] 4 = mkF m 0 #[vi (1 : Int32), vi x1, vi x2, vi x3] [] := by first | (simp [entryFrame, mkF, argsToLocals, Value.category]; done) | rfl
def Q1_1 (Z : State) (p2 : Int32) (p3 : Int32) (p4 : Int32) (h0 : Heap) (n0 : Nat) (v : Option Value) (h : Heap) (L : List Loc) : Prop := ∃ b : Addr, ∃ kb : ClassId, v = some (.ref b) ∧ Fr n0 L ∧ Keep h0 h [] ∧ h0.size ≤ b ∧ Arv Z h b kb .int (1 : Int32) [(.int p2)] (.int (0 : Int32))
set_option maxRecDepth 65536 in
set_option maxHeartbeats 40000000 in
theorem rm1_1 (l : Launch) (Z : State) (a0 : Array Value) (hw : ∀ d ∈ tables_1, d.before a0 Z = true) (ws : List Jvm.Cond) (p2 : Int32) (p3 : Int32) (p4 : Int32) (h0 : Heap) (n0 : Nat) (Z0 : n0 ≤ h0.size) :
    MetFree l y_1 (head1 (Jvm.Cond.code y_1 method_2_code 4 (some (.array .int)) :: ws) ({ frames := 0, cells := 1, slots := 1, locals := 0 } : Room)) (fun a U => a = #[(.int (1 : Int32)), (.int p2), (.int p3), (.int p4)] ∧ Z.Warmed39 U.vm ∧ U.heap = h0) (fun _ _ _ _ _ => True) (fun _ U o U' => ∃ v L, o = .returned v ∧ Q1_1 Z p2 p3 p4 h0 n0 v U'.heap L ∧ FrameEnd U o U' L ({ frames := 0, cells := 1, slots := 1, locals := 0 } : Room).cells ({ frames := 0, cells := 1, slots := 1, locals := 0 } : Room).slots) := by
  refine MetFree.of_bodySF (plainFor_of_name pn_1_1) hisR ?_
  intro p e s m args below meth c s₁ Bd hml0 hP hK
  obtain ⟨rfl, hZ, hh⟩ := hP
  have hx := Bd.exec
  have hby := Bd.bytes
  have hml : c.maxLocals = 4 := hml0
  have hown : s.vm.findClass "com/example/slackline/slackline/workload/MachineListsPinLaw" = some m.cls := findClass_of_methodNamed Bd.named
  have hnm := (name_of_methodNamed Bd.named Bd.method).1
  have X0 : Stand p l e ({ frames := 0, cells := 1, slots := 1, locals := 0 } : Room) s m #[(.int (1 : Int32)), (.int p2), (.int p3), (.int p4)] below meth c s₁ [] 0 0 := Stand.of_body Bd
  have e0 : s₁.heap = h0 := by rw [← hh, Bd.state]; rfl
  have N0 := Fr.nil n0
  have K0 : Keep h0 h0 [] := Keep.refl h0 []
  obtain ⟨F0, hF0⟩ : ∃ F : JFrame, F = entryFrame m #[(.int (1 : Int32)), (.int p2), (.int p3), (.int p4)] 4 := ⟨_, rfl⟩
  have pre0 : ∀ t, Steps p.tables e below (s₁.setTop F0) t → Steps p.tables e below (s₁.setTop (entryFrame m #[(.int (1 : Int32)), (.int p2), (.int p3), (.int p4)] 4)) t := fun t k => hF0 ▸ k
  have go0 : Go p e below s₁ F0 s₁ (mkF m 0 #[vi (1 : Int32), vi p2, vi p3, vi p4] []) := fun t k => castTop (hF0.trans (ef_1_1 m p2 p3 p4)) k
  have go1 : Go p e below s₁ F0 s₁ (mkF m 14 #[vi (1 : Int32), vi p2, vi p3, vi p4] [(.int (1 : Int32))]) := by
    intro t_ k_
    refine go0 t_ ?_
    refine o_iloadN X0 hx (hb hby d1_0) rfl ?_
    refine o_ifYes X0 hx (hb hby d1_1) (pc' := 8) rfl (by decide) ((if0 _ _).trans (feq (by decide : ¬ ((1 : Int32) = (0 : Int32)))).2) ?_
    refine o_iloadN X0 hx (hb hby d1_8) rfl ?_
    refine o_iconst X0 hx (hb hby d1_9) (v := 1) rfl ?_
    refine o_icmpNo X0 hx (hb hby d1_10) (teq (by decide : (1 : Int32) = (1 : Int32))).2 ?_
    refine o_iconst X0 hx (hb hby d1_13) (v := 1) rfl ?_
    exact k_
  obtain ⟨T2, h2, k2, X2, e2, E2, A2, st2⟩ := newP X0 hx hZ (own_w hw 4 rfl) e0 (g := (mkF m 14 #[vi (1 : Int32), vi p2, vi p3, vi p4] [(.int (1 : Int32))])) rfl (hb hby d1_14) rfl (by decide) (cap := 1) (by decide) (by decide) (by decide) (by decide)
  obtain ⟨b2, gz2⟩ : ∃ z, z = h0.size := ⟨_, rfl⟩
  rw [← gz2] at A2 st2
  have g_b2 : n0 ≤ b2 := Nat.le_trans Z0 (Nat.le_of_eq gz2.symm)
  have sz_b2 : h0.size ≤ b2 := Nat.le_trans K0.1 (Nat.le_of_eq gz2.symm)
  have K3 : Keep h0 h2 [] := K0.ext E2
  have Z3 : n0 ≤ h2.size := Nat.le_trans Z0 E2.1
  have V2 : Arv Z h2 b2 k2 .int (1 : Int32) [(.int (0 : Int32))] (.int (0 : Int32)) := (Arv.new A2 (by decide)).pad (pad_rep [] (.int (0 : Int32)) 1)
  have go4 : Go p e below s₁ F0 T2 (mkF m 16 #[vi (1 : Int32), vi p2, vi p3, vi p4] [(.ref b2)]) := fun t_ k_ => go1 t_ (st2 t_ k_)
  have go5 : Go p e below s₁ F0 T2 (mkF m 19 #[vi (1 : Int32), vi p2, vi p3, vi p4] [(.int p2), (.int (0 : Int32)), (.ref b2), (.ref b2)]) := by
    intro t_ k_
    refine go4 t_ ?_
    refine o_dup X2 hx (hb hby d1_16) rfl ?_
    refine o_iconst X2 hx (hb hby d1_17) (v := 0) rfl ?_
    refine o_iloadN X2 hx (hb hby d1_18) rfl ?_
    exact k_
  obtain ⟨cl6, Ar6, q6, Sz6, Nn6, Hs6, G6⟩ := id V2
  have hin6 : ¬ ((0 : Int32) < 0 ∨ cl6.slots.size ≤ ((0 : Int32)).toNatClampNeg) := inb_of Sz6 ⟨by decide, by decide⟩
  obtain ⟨T6, h6, X6, e6, W6, st6⟩ := stI X2 hx hZ e2 Ar6 (j := (0 : Int32)) hin6 (g := (mkF m 19 #[vi (1 : Int32), vi p2, vi p3, vi p4] [(.int p2), (.int (0 : Int32)), (.ref b2), (.ref b2)])) rfl rfl (hb hby d1_19)
  have V6 : Arv Z h6 b2 k2 .int (1 : Int32) [(.int p2)] (.int (0 : Int32)) := Arv.set Ar6 q6 Sz6 Nn6 Hs6 G6 rfl W6 0 rfl (Nat.le_of_ble_eq_true rfl)
  have K7 : Keep h0 h6 [] := K3.wr W6 (Or.inr sz_b2)
  have Z7 : n0 ≤ h6.size := Nat.le_trans Z3 (Keep.of_wr W6).1
  have N6 := Fr.snoc X6 N0 g_b2
  have go8 : Go p e below s₁ F0 T6 (mkF m 20 #[vi (1 : Int32), vi p2, vi p3, vi p4] [(.ref b2)]) := fun t_ k_ => go5 t_ (st6 t_ k_)
  obtain ⟨fs, hr, hrun, hended, hW, hsame⟩ := X6.leave (v := some (.ref b2)) (fun h => by rw [Bd.returns] at h; cases h)
  refine ⟨_, _, pre0 _ (go8 _ ?_), hrun, hended, _, _, rfl, ?_, ⟨_, rfl⟩, hW, hsame.mono (by decide) (by decide)⟩
  · skip
    exact retOut X6 hx Bd.returns rfl (Or.inr (Or.inr (Or.inr (Or.inr ⟨rfl, rfl, rfl⟩)))) (hb hby d1_20) hr
  · show Q1_1 Z p2 p3 p4 h0 n0 _ T6.heap _
    rw [e6]
    exact ⟨b2, k2, rfl, N6, K7, sz_b2, V6⟩

theorem d1_21 : decode method_2_code 21 = .ok (.iload_n 0, 1) := by decide +kernel
theorem d1_22 : decode method_2_code 22 = .ok (.iconst 2, 1) := by decide +kernel
theorem d1_23 : decode method_2_code 23 = .ok (.if_icmp .ne 15, 3) := by decide +kernel
theorem d1_26 : decode method_2_code 26 = .ok (.iconst 2, 1) := by decide +kernel
theorem d1_27 : decode method_2_code 27 = .ok (.newarray .int, 2) := by decide +kernel
theorem d1_29 : decode method_2_code 29 = .ok (.dup, 1) := by decide +kernel
theorem d1_30 : decode method_2_code 30 = .ok (.iconst 0, 1) := by decide +kernel
theorem d1_31 : decode method_2_code 31 = .ok (.iload_n 1, 1) := by decide +kernel
theorem d1_32 : decode method_2_code 32 = .ok (.iastore, 1) := by decide +kernel
theorem d1_33 : decode method_2_code 33 = .ok (.dup, 1) := by decide +kernel
theorem d1_34 : decode method_2_code 34 = .ok (.iconst 1, 1) := by decide +kernel
theorem d1_35 : decode method_2_code 35 = .ok (.iload_n 2, 1) := by decide +kernel
theorem d1_36 : decode method_2_code 36 = .ok (.iastore, 1) := by decide +kernel
theorem d1_37 : decode method_2_code 37 = .ok (.areturn, 1) := by decide +kernel
theorem pn_1_2 : plainName "com/example/slackline/slackline/workload/MachineListsPinLaw" = true := by first | (simp [plainName, overriddenIn]; done) | decide +kernel
theorem ef_1_2 (m : MethodId) (x1 : Int32) (x2 : Int32) (x3 : Int32) : entryFrame m #[(.int (2 : Int32)), (.int x1), (.int x2), (.int x3)] 4 = mkF m 0 #[vi (2 : Int32), vi x1, vi x2, vi x3] [] := by first | (simp [entryFrame, mkF, argsToLocals, Value.category]; done) | rfl
def Q1_2 (Z : State) (p2 : Int32) (p3 : Int32) (p4 : Int32) (h0 : Heap) (n0 : Nat) (v : Option Value) (h : Heap) (L : List Loc) : Prop := ∃ b : Addr, ∃ kb : ClassId, v = some (.ref b) ∧ Fr n0 L ∧ Keep h0 h [] ∧ h0.size ≤ b ∧ Arv Z h b kb .int (2 : Int32) [(.int p2), (.int p3)] (.int (0 : Int32))
set_option maxRecDepth 65536 in
set_option maxHeartbeats 40000000 in
theorem rm1_2 (l : Launch) (Z : State) (a0 : Array Value) (hw : ∀ d ∈ tables_1, d.before a0 Z = true) (ws : List Jvm.Cond) (p2 : Int32) (p3 : Int32) (p4 : Int32) (h0 : Heap) (n0 : Nat) (Z0 : n0 ≤ h0.size) :
    MetFree l y_1 (head1 (Jvm.Cond.code y_1 method_2_code 4 (some (.array .int)) :: ws) ({ frames := 0, cells := 1, slots := 2, locals := 0 } : Room)) (fun a U => a = #[(.int (2 : Int32)), (.int p2), (.int p3), (.int p4)] ∧ Z.Warmed39 U.vm ∧ U.heap = h0) (fun _ _ _ _ _ => True) (fun _ U o U' => ∃ v L, o = .returned v ∧ Q1_2 Z p2 p3 p4 h0 n0 v U'.heap L ∧ FrameEnd U o U' L ({ frames := 0, cells := 1, slots := 2, locals := 0 } : Room).cells ({ frames := 0, cells := 1, slots := 2, locals := 0 } : Room).slots) := by
  refine MetFree.of_bodySF (plainFor_of_name pn_1_2) hisR ?_
  intro p e s m args below meth c s₁ Bd hml0 hP hK
  obtain ⟨rfl, hZ, hh⟩ := hP
  have hx := Bd.exec
  have hby := Bd.bytes
  have hml : c.maxLocals = 4 := hml0
  have hown : s.vm.findClass "com/example/slackline/slackline/workload/MachineListsPinLaw" = some m.cls := findClass_of_methodNamed Bd.named
  have hnm := (name_of_methodNamed Bd.named Bd.method).1
  have X0 : Stand p l e ({ frames := 0, cells := 1, slots := 2, locals := 0 } : Room) s m #[(.int (2 : Int32)), (.int p2), (.int p3), (.int p4)] below meth c s₁ [] 0 0 := Stand.of_body Bd
  have e0 : s₁.heap = h0 := by rw [← hh, Bd.state]; rfl
  have N0 := Fr.nil n0
  have K0 : Keep h0 h0 [] := Keep.refl h0 []
  obtain ⟨F0, hF0⟩ : ∃ F : JFrame, F = entryFrame m #[(.int (2 : Int32)), (.int p2), (.int p3), (.int p4)] 4 := ⟨_, rfl⟩
  have pre0 : ∀ t, Steps p.tables e below (s₁.setTop F0) t → Steps p.tables e below (s₁.setTop (entryFrame m #[(.int (2 : Int32)), (.int p2), (.int p3), (.int p4)] 4)) t := fun t k => hF0 ▸ k
  have go0 : Go p e below s₁ F0 s₁ (mkF m 0 #[vi (2 : Int32), vi p2, vi p3, vi p4] []) := fun t k => castTop (hF0.trans (ef_1_2 m p2 p3 p4)) k
  have go1 : Go p e below s₁ F0 s₁ (mkF m 27 #[vi (2 : Int32), vi p2, vi p3, vi p4] [(.int (2 : Int32))]) := by
    intro t_ k_
    refine go0 t_ ?_
    refine o_iloadN X0 hx (hb hby d1_0) rfl ?_
    refine o_ifYes X0 hx (hb hby d1_1) (pc' := 8) rfl (by decide) ((if0 _ _).trans (feq (by decide : ¬ ((2 : Int32) = (0 : Int32)))).2) ?_
    refine o_iloadN X0 hx (hb hby d1_8) rfl ?_
    refine o_iconst X0 hx (hb hby d1_9) (v := 1) rfl ?_
    refine o_icmpYes X0 hx (hb hby d1_10) (pc' := 21) rfl (by decide) (feq (by decide : ¬ ((2 : Int32) = (1 : Int32)))).2 ?_
    refine o_iloadN X0 hx (hb hby d1_21) rfl ?_
    refine o_iconst X0 hx (hb hby d1_22) (v := 2) rfl ?_
    refine o_icmpNo X0 hx (hb hby d1_23) (teq (by decide : (2 : Int32) = (2 : Int32))).2 ?_
    refine o_iconst X0 hx (hb hby d1_26) (v := 2) rfl ?_
    exact k_
  obtain ⟨T2, h2, k2, X2, e2, E2, A2, st2⟩ := newP X0 hx hZ (own_w hw 4 rfl) e0 (g := (mkF m 27 #[vi (2 : Int32), vi p2, vi p3, vi p4] [(.int (2 : Int32))])) rfl (hb hby d1_27) rfl (by decide) (cap := 2) (by decide) (by decide) (by decide) (by decide)
  obtain ⟨b2, gz2⟩ : ∃ z, z = h0.size := ⟨_, rfl⟩
  rw [← gz2] at A2 st2
  have g_b2 : n0 ≤ b2 := Nat.le_trans Z0 (Nat.le_of_eq gz2.symm)
  have sz_b2 : h0.size ≤ b2 := Nat.le_trans K0.1 (Nat.le_of_eq gz2.symm)
  have K3 : Keep h0 h2 [] := K0.ext E2
  have Z3 : n0 ≤ h2.size := Nat.le_trans Z0 E2.1
  have V2 : Arv Z h2 b2 k2 .int (2 : Int32) [(.int (0 : Int32)), (.int (0 : Int32))] (.int (0 : Int32)) := (Arv.new A2 (by decide)).pad (pad_rep [] (.int (0 : Int32)) 2)
  have go4 : Go p e below s₁ F0 T2 (mkF m 29 #[vi (2 : Int32), vi p2, vi p3, vi p4] [(.ref b2)]) := fun t_ k_ => go1 t_ (st2 t_ k_)
  have go5 : Go p e below s₁ F0 T2 (mkF m 32 #[vi (2 : Int32), vi p2, vi p3, vi p4] [(.int p2), (.int (0 : Int32)), (.ref b2), (.ref b2)]) := by
    intro t_ k_
    refine go4 t_ ?_
    refine o_dup X2 hx (hb hby d1_29) rfl ?_
    refine o_iconst X2 hx (hb hby d1_30) (v := 0) rfl ?_
    refine o_iloadN X2 hx (hb hby d1_31) rfl ?_
    exact k_
  obtain ⟨cl6, Ar6, q6, Sz6, Nn6, Hs6, G6⟩ := id V2
  have hin6 : ¬ ((0 : Int32) < 0 ∨ cl6.slots.size ≤ ((0 : Int32)).toNatClampNeg) := inb_of Sz6 ⟨by decide, by decide⟩
  obtain ⟨T6, h6, X6, e6, W6, st6⟩ := stI X2 hx hZ e2 Ar6 (j := (0 : Int32)) hin6 (g := (mkF m 32 #[vi (2 : Int32), vi p2, vi p3, vi p4] [(.int p2), (.int (0 : Int32)), (.ref b2), (.ref b2)])) rfl rfl (hb hby d1_32)
  have V6 : Arv Z h6 b2 k2 .int (2 : Int32) [(.int p2), (.int (0 : Int32))] (.int (0 : Int32)) := Arv.set Ar6 q6 Sz6 Nn6 Hs6 G6 rfl W6 0 rfl (Nat.le_of_ble_eq_true rfl)
  have K7 : Keep h0 h6 [] := K3.wr W6 (Or.inr sz_b2)
  have Z7 : n0 ≤ h6.size := Nat.le_trans Z3 (Keep.of_wr W6).1
  have N6 := Fr.snoc X6 N0 g_b2
  have go8 : Go p e below s₁ F0 T6 (mkF m 33 #[vi (2 : Int32), vi p2, vi p3, vi p4] [(.ref b2)]) := fun t_ k_ => go5 t_ (st6 t_ k_)
  have go9 : Go p e below s₁ F0 T6 (mkF m 36 #[vi (2 : Int32), vi p2, vi p3, vi p4] [(.int p3), (.int (1 : Int32)), (.ref b2), (.ref b2)]) := by
    intro t_ k_
    refine go8 t_ ?_
    refine o_dup X6 hx (hb hby d1_33) rfl ?_
    refine o_iconst X6 hx (hb hby d1_34) (v := 1) rfl ?_
    refine o_iloadN X6 hx (hb hby d1_35) rfl ?_
    exact k_
  obtain ⟨cl10, Ar10, q10, Sz10, Nn10, Hs10, G10⟩ := id V6
  have hin10 : ¬ ((1 : Int32) < 0 ∨ cl10.slots.size ≤ ((1 : Int32)).toNatClampNeg) := inb_of Sz10 ⟨by decide, by decide⟩
  obtain ⟨T10, h10, X10, e10, W10, st10⟩ := stI X6 hx hZ e6 Ar10 (j := (1 : Int32)) hin10 (g := (mkF m 36 #[vi (2 : Int32), vi p2, vi p3, vi p4] [(.int p3), (.int (1 : Int32)), (.ref b2), (.ref b2)])) rfl rfl (hb hby d1_36)
  have V10 : Arv Z h10 b2 k2 .int (2 : Int32) [(.int p2), (.int p3)] (.int (0 : Int32)) := Arv.set Ar10 q10 Sz10 Nn10 Hs10 G10 rfl W10 1 rfl (Nat.le_of_ble_eq_true rfl)
  have K11 : Keep h0 h10 [] := K7.wr W10 (Or.inr sz_b2)
  have Z11 : n0 ≤ h10.size := Nat.le_trans Z7 (Keep.of_wr W10).1
  have N10 := Fr.snoc X10 N6 g_b2
  have go12 : Go p e below s₁ F0 T10 (mkF m 37 #[vi (2 : Int32), vi p2, vi p3, vi p4] [(.ref b2)]) := fun t_ k_ => go9 t_ (st10 t_ k_)
  obtain ⟨fs, hr, hrun, hended, hW, hsame⟩ := X10.leave (v := some (.ref b2)) (fun h => by rw [Bd.returns] at h; cases h)
  refine ⟨_, _, pre0 _ (go12 _ ?_), hrun, hended, _, _, rfl, ?_, ⟨_, rfl⟩, hW, hsame.mono (by decide) (by decide)⟩
  · skip
    exact retOut X10 hx Bd.returns rfl (Or.inr (Or.inr (Or.inr (Or.inr ⟨rfl, rfl, rfl⟩)))) (hb hby d1_37) hr
  · show Q1_2 Z p2 p3 p4 h0 n0 _ T10.heap _
    rw [e10]
    exact ⟨b2, k2, rfl, N10, K11, sz_b2, V10⟩

theorem d1_38 : decode method_2_code 38 = .ok (.iconst 3, 1) := by decide +kernel
theorem d1_39 : decode method_2_code 39 = .ok (.newarray .int, 2) := by decide +kernel
theorem d1_41 : decode method_2_code 41 = .ok (.dup, 1) := by decide +kernel
theorem d1_42 : decode method_2_code 42 = .ok (.iconst 0, 1) := by decide +kernel
theorem d1_43 : decode method_2_code 43 = .ok (.iload_n 1, 1) := by decide +kernel
theorem d1_44 : decode method_2_code 44 = .ok (.iastore, 1) := by decide +kernel
theorem d1_45 : decode method_2_code 45 = .ok (.dup, 1) := by decide +kernel
theorem d1_46 : decode method_2_code 46 = .ok (.iconst 1, 1) := by decide +kernel
theorem d1_47 : decode method_2_code 47 = .ok (.iload_n 2, 1) := by decide +kernel
theorem d1_48 : decode method_2_code 48 = .ok (.iastore, 1) := by decide +kernel
theorem d1_49 : decode method_2_code 49 = .ok (.dup, 1) := by decide +kernel
theorem d1_50 : decode method_2_code 50 = .ok (.iconst 2, 1) := by decide +kernel
theorem d1_51 : decode method_2_code 51 = .ok (.iload_n 3, 1) := by decide +kernel
theorem d1_52 : decode method_2_code 52 = .ok (.iastore, 1) := by decide +kernel
theorem d1_53 : decode method_2_code 53 = .ok (.areturn, 1) := by decide +kernel
theorem pn_1_3 : plainName "com/example/slackline/slackline/workload/MachineListsPinLaw" = true := by first | (simp [plainName, overriddenIn]; done) | decide +kernel
theorem ef_1_3 (m : MethodId) (x1 : Int32) (x2 : Int32) (x3 : Int32) : entryFrame m #[(.int (3 : Int32)), (.int x1), (.int x2), (.int x3)] 4 = mkF m 0 #[vi (3 : Int32), vi x1, vi x2, vi x3] [] := by first | (simp [entryFrame, mkF, argsToLocals, Value.category]; done) | rfl
def Q1_3 (Z : State) (p2 : Int32) (p3 : Int32) (p4 : Int32) (h0 : Heap) (n0 : Nat) (v : Option Value) (h : Heap) (L : List Loc) : Prop := ∃ b : Addr, ∃ kb : ClassId, v = some (.ref b) ∧ Fr n0 L ∧ Keep h0 h [] ∧ h0.size ≤ b ∧ Arv Z h b kb .int (3 : Int32) [(.int p2), (.int p3), (.int p4)] (.int (0 : Int32))
set_option maxRecDepth 65536 in
set_option maxHeartbeats 40000000 in
theorem rm1_3 (l : Launch) (Z : State) (a0 : Array Value) (hw : ∀ d ∈ tables_1, d.before a0 Z = true) (ws : List Jvm.Cond) (p2 : Int32) (p3 : Int32) (p4 : Int32) (h0 : Heap) (n0 : Nat) (Z0 : n0 ≤ h0.size) :
    MetFree l y_1 (head1 (Jvm.Cond.code y_1 method_2_code 4 (some (.array .int)) :: ws) ({ frames := 0, cells := 1, slots := 3, locals := 0 } : Room)) (fun a U => a = #[(.int (3 : Int32)), (.int p2), (.int p3), (.int p4)] ∧ Z.Warmed39 U.vm ∧ U.heap = h0) (fun _ _ _ _ _ => True) (fun _ U o U' => ∃ v L, o = .returned v ∧ Q1_3 Z p2 p3 p4 h0 n0 v U'.heap L ∧ FrameEnd U o U' L ({ frames := 0, cells := 1, slots := 3, locals := 0 } : Room).cells ({ frames := 0, cells := 1, slots := 3, locals := 0 } : Room).slots) := by
  refine MetFree.of_bodySF (plainFor_of_name pn_1_3) hisR ?_
  intro p e s m args below meth c s₁ Bd hml0 hP hK
  obtain ⟨rfl, hZ, hh⟩ := hP
  have hx := Bd.exec
  have hby := Bd.bytes
  have hml : c.maxLocals = 4 := hml0
  have hown : s.vm.findClass "com/example/slackline/slackline/workload/MachineListsPinLaw" = some m.cls := findClass_of_methodNamed Bd.named
  have hnm := (name_of_methodNamed Bd.named Bd.method).1
  have X0 : Stand p l e ({ frames := 0, cells := 1, slots := 3, locals := 0 } : Room) s m #[(.int (3 : Int32)), (.int p2), (.int p3), (.int p4)] below meth c s₁ [] 0 0 := Stand.of_body Bd
  have e0 : s₁.heap = h0 := by rw [← hh, Bd.state]; rfl
  have N0 := Fr.nil n0
  have K0 : Keep h0 h0 [] := Keep.refl h0 []
  obtain ⟨F0, hF0⟩ : ∃ F : JFrame, F = entryFrame m #[(.int (3 : Int32)), (.int p2), (.int p3), (.int p4)] 4 := ⟨_, rfl⟩
  have pre0 : ∀ t, Steps p.tables e below (s₁.setTop F0) t → Steps p.tables e below (s₁.setTop (entryFrame m #[(.int (3 : Int32)), (.int p2), (.int p3), (.int p4)] 4)) t := fun t k => hF0 ▸ k
  have go0 : Go p e below s₁ F0 s₁ (mkF m 0 #[vi (3 : Int32), vi p2, vi p3, vi p4] []) := fun t k => castTop (hF0.trans (ef_1_3 m p2 p3 p4)) k
  have go1 : Go p e below s₁ F0 s₁ (mkF m 39 #[vi (3 : Int32), vi p2, vi p3, vi p4] [(.int (3 : Int32))]) := by
    intro t_ k_
    refine go0 t_ ?_
    refine o_iloadN X0 hx (hb hby d1_0) rfl ?_
    refine o_ifYes X0 hx (hb hby d1_1) (pc' := 8) rfl (by decide) ((if0 _ _).trans (feq (by decide : ¬ ((3 : Int32) = (0 : Int32)))).2) ?_
    refine o_iloadN X0 hx (hb hby d1_8) rfl ?_
    refine o_iconst X0 hx (hb hby d1_9) (v := 1) rfl ?_
    refine o_icmpYes X0 hx (hb hby d1_10) (pc' := 21) rfl (by decide) (feq (by decide : ¬ ((3 : Int32) = (1 : Int32)))).2 ?_
    refine o_iloadN X0 hx (hb hby d1_21) rfl ?_
    refine o_iconst X0 hx (hb hby d1_22) (v := 2) rfl ?_
    refine o_icmpYes X0 hx (hb hby d1_23) (pc' := 38) rfl (by decide) (feq (by decide : ¬ ((3 : Int32) = (2 : Int32)))).2 ?_
    refine o_iconst X0 hx (hb hby d1_38) (v := 3) rfl ?_
    exact k_
  obtain ⟨T2, h2, k2, X2, e2, E2, A2, st2⟩ := newP X0 hx hZ (own_w hw 4 rfl) e0 (g := (mkF m 39 #[vi (3 : Int32), vi p2, vi p3, vi p4] [(.int (3 : Int32))])) rfl (hb hby d1_39) rfl (by decide) (cap := 3) (by decide) (by decide) (by decide) (by decide)
  obtain ⟨b2, gz2⟩ : ∃ z, z = h0.size := ⟨_, rfl⟩
  rw [← gz2] at A2 st2
  have g_b2 : n0 ≤ b2 := Nat.le_trans Z0 (Nat.le_of_eq gz2.symm)
  have sz_b2 : h0.size ≤ b2 := Nat.le_trans K0.1 (Nat.le_of_eq gz2.symm)
  have K3 : Keep h0 h2 [] := K0.ext E2
  have Z3 : n0 ≤ h2.size := Nat.le_trans Z0 E2.1
  have V2 : Arv Z h2 b2 k2 .int (3 : Int32) [(.int (0 : Int32)), (.int (0 : Int32)), (.int (0 : Int32))] (.int (0 : Int32)) := (Arv.new A2 (by decide)).pad (pad_rep [] (.int (0 : Int32)) 3)
  have go4 : Go p e below s₁ F0 T2 (mkF m 41 #[vi (3 : Int32), vi p2, vi p3, vi p4] [(.ref b2)]) := fun t_ k_ => go1 t_ (st2 t_ k_)
  have go5 : Go p e below s₁ F0 T2 (mkF m 44 #[vi (3 : Int32), vi p2, vi p3, vi p4] [(.int p2), (.int (0 : Int32)), (.ref b2), (.ref b2)]) := by
    intro t_ k_
    refine go4 t_ ?_
    refine o_dup X2 hx (hb hby d1_41) rfl ?_
    refine o_iconst X2 hx (hb hby d1_42) (v := 0) rfl ?_
    refine o_iloadN X2 hx (hb hby d1_43) rfl ?_
    exact k_
  obtain ⟨cl6, Ar6, q6, Sz6, Nn6, Hs6, G6⟩ := id V2
  have hin6 : ¬ ((0 : Int32) < 0 ∨ cl6.slots.size ≤ ((0 : Int32)).toNatClampNeg) := inb_of Sz6 ⟨by decide, by decide⟩
  obtain ⟨T6, h6, X6, e6, W6, st6⟩ := stI X2 hx hZ e2 Ar6 (j := (0 : Int32)) hin6 (g := (mkF m 44 #[vi (3 : Int32), vi p2, vi p3, vi p4] [(.int p2), (.int (0 : Int32)), (.ref b2), (.ref b2)])) rfl rfl (hb hby d1_44)
  have V6 : Arv Z h6 b2 k2 .int (3 : Int32) [(.int p2), (.int (0 : Int32)), (.int (0 : Int32))] (.int (0 : Int32)) := Arv.set Ar6 q6 Sz6 Nn6 Hs6 G6 rfl W6 0 rfl (Nat.le_of_ble_eq_true rfl)
  have K7 : Keep h0 h6 [] := K3.wr W6 (Or.inr sz_b2)
  have Z7 : n0 ≤ h6.size := Nat.le_trans Z3 (Keep.of_wr W6).1
  have N6 := Fr.snoc X6 N0 g_b2
  have go8 : Go p e below s₁ F0 T6 (mkF m 45 #[vi (3 : Int32), vi p2, vi p3, vi p4] [(.ref b2)]) := fun t_ k_ => go5 t_ (st6 t_ k_)
  have go9 : Go p e below s₁ F0 T6 (mkF m 48 #[vi (3 : Int32), vi p2, vi p3, vi p4] [(.int p3), (.int (1 : Int32)), (.ref b2), (.ref b2)]) := by
    intro t_ k_
    refine go8 t_ ?_
    refine o_dup X6 hx (hb hby d1_45) rfl ?_
    refine o_iconst X6 hx (hb hby d1_46) (v := 1) rfl ?_
    refine o_iloadN X6 hx (hb hby d1_47) rfl ?_
    exact k_
  obtain ⟨cl10, Ar10, q10, Sz10, Nn10, Hs10, G10⟩ := id V6
  have hin10 : ¬ ((1 : Int32) < 0 ∨ cl10.slots.size ≤ ((1 : Int32)).toNatClampNeg) := inb_of Sz10 ⟨by decide, by decide⟩
  obtain ⟨T10, h10, X10, e10, W10, st10⟩ := stI X6 hx hZ e6 Ar10 (j := (1 : Int32)) hin10 (g := (mkF m 48 #[vi (3 : Int32), vi p2, vi p3, vi p4] [(.int p3), (.int (1 : Int32)), (.ref b2), (.ref b2)])) rfl rfl (hb hby d1_48)
  have V10 : Arv Z h10 b2 k2 .int (3 : Int32) [(.int p2), (.int p3), (.int (0 : Int32))] (.int (0 : Int32)) := Arv.set Ar10 q10 Sz10 Nn10 Hs10 G10 rfl W10 1 rfl (Nat.le_of_ble_eq_true rfl)
  have K11 : Keep h0 h10 [] := K7.wr W10 (Or.inr sz_b2)
  have Z11 : n0 ≤ h10.size := Nat.le_trans Z7 (Keep.of_wr W10).1
  have N10 := Fr.snoc X10 N6 g_b2
  have go12 : Go p e below s₁ F0 T10 (mkF m 49 #[vi (3 : Int32), vi p2, vi p3, vi p4] [(.ref b2)]) := fun t_ k_ => go9 t_ (st10 t_ k_)
  have go13 : Go p e below s₁ F0 T10 (mkF m 52 #[vi (3 : Int32), vi p2, vi p3, vi p4] [(.int p4), (.int (2 : Int32)), (.ref b2), (.ref b2)]) := by
    intro t_ k_
    refine go12 t_ ?_
    refine o_dup X10 hx (hb hby d1_49) rfl ?_
    refine o_iconst X10 hx (hb hby d1_50) (v := 2) rfl ?_
    refine o_iloadN X10 hx (hb hby d1_51) rfl ?_
    exact k_
  obtain ⟨cl14, Ar14, q14, Sz14, Nn14, Hs14, G14⟩ := id V10
  have hin14 : ¬ ((2 : Int32) < 0 ∨ cl14.slots.size ≤ ((2 : Int32)).toNatClampNeg) := inb_of Sz14 ⟨by decide, by decide⟩
  obtain ⟨T14, h14, X14, e14, W14, st14⟩ := stI X10 hx hZ e10 Ar14 (j := (2 : Int32)) hin14 (g := (mkF m 52 #[vi (3 : Int32), vi p2, vi p3, vi p4] [(.int p4), (.int (2 : Int32)), (.ref b2), (.ref b2)])) rfl rfl (hb hby d1_52)
  have V14 : Arv Z h14 b2 k2 .int (3 : Int32) [(.int p2), (.int p3), (.int p4)] (.int (0 : Int32)) := Arv.set Ar14 q14 Sz14 Nn14 Hs14 G14 rfl W14 2 rfl (Nat.le_of_ble_eq_true rfl)
  have K15 : Keep h0 h14 [] := K11.wr W14 (Or.inr sz_b2)
  have Z15 : n0 ≤ h14.size := Nat.le_trans Z11 (Keep.of_wr W14).1
  have N14 := Fr.snoc X14 N10 g_b2
  have go16 : Go p e below s₁ F0 T14 (mkF m 53 #[vi (3 : Int32), vi p2, vi p3, vi p4] [(.ref b2)]) := fun t_ k_ => go13 t_ (st14 t_ k_)
  obtain ⟨fs, hr, hrun, hended, hW, hsame⟩ := X14.leave (v := some (.ref b2)) (fun h => by rw [Bd.returns] at h; cases h)
  refine ⟨_, _, pre0 _ (go16 _ ?_), hrun, hended, _, _, rfl, ?_, ⟨_, rfl⟩, hW, hsame.mono (by decide) (by decide)⟩
  · skip
    exact retOut X14 hx Bd.returns rfl (Or.inr (Or.inr (Or.inr (Or.inr ⟨rfl, rfl, rfl⟩)))) (hb hby d1_53) hr
  · show Q1_3 Z p2 p3 p4 h0 n0 _ T14.heap _
    rw [e14]
    exact ⟨b2, k2, rfl, N14, K15, sz_b2, V14⟩

theorem d2_0 : decode prog_150_method_1_code 0 = .ok (.aload_n 0, 1) := by decide +kernel
theorem d2_1 : decode prog_150_method_1_code 1 = .ok (.invokespecial 1, 3) := by decide +kernel
theorem d2_4 : decode prog_150_method_1_code 4 = .ok (.aload_n 0, 1) := by decide +kernel
theorem d2_5 : decode prog_150_method_1_code 5 = .ok (.lload_n 1, 1) := by decide +kernel
theorem d2_6 : decode prog_150_method_1_code 6 = .ok (.putfield 7, 3) := by decide +kernel
theorem d2_9 : decode prog_150_method_1_code 9 = .ok (.aload_n 0, 1) := by decide +kernel
theorem d2_10 : decode prog_150_method_1_code 10 = .ok (.lload_n 3, 1) := by decide +kernel
theorem d2_11 : decode prog_150_method_1_code 11 = .ok (.putfield 13, 3) := by decide +kernel
theorem d2_14 : decode prog_150_method_1_code 14 = .ok (.aload_n 0, 1) := by decide +kernel
theorem d2_15 : decode prog_150_method_1_code 15 = .ok (.aload 5, 2) := by decide +kernel
theorem d2_17 : decode prog_150_method_1_code 17 = .ok (.putfield 16, 3) := by decide +kernel
theorem d2_20 : decode prog_150_method_1_code 20 = .ok (.aload_n 0, 1) := by decide +kernel
theorem d2_21 : decode prog_150_method_1_code 21 = .ok (.aload 6, 2) := by decide +kernel
theorem d2_23 : decode prog_150_method_1_code 23 = .ok (.putfield 20, 3) := by decide +kernel
theorem d2_26 : decode prog_150_method_1_code 26 = .ok (.return_, 1) := by decide +kernel
theorem pn_2 : plainName "com/example/slackline/slackline/workload/Farm$Machine" = true := by first | (simp [plainName, overriddenIn]; done) | decide +kernel
theorem pd2_0 : parseMethodDescriptor "()V" = some ⟨[], none⟩ := by decide +kernel
theorem ef_2 (m : MethodId) (x0 : Addr) (x1 : Int64) (x2 : Int64) (x3 : Addr) (x4 : Addr) : entryFrame m #[(.ref x0), (.long x1), (.long x2), (.ref x3), (.ref x4)] 7 = mkF m 0 #[vr x0, vj x1, .second, vj x2, .second, vr x3, vr x4] [] := by first | (simp [entryFrame, mkF, argsToLocals, Value.category]; done) | rfl
def Q2 (Z : State) (a1 : Addr) (q2 : Int64) (q3 : Int64) (a4 : Addr) (a5 : Addr) (h0 : Heap) (n0 : Nat) (v : Option Value) (h : Heap) (L : List Loc) : Prop := v = none ∧ Fr n0 L ∧ Keep h0 h [a1] ∧ Fld Z h a1 c_0 "licences" "[I" (.ref a5)
set_option maxRecDepth 65536 in
set_option maxHeartbeats 40000000 in
theorem rm2 (l : Launch) (Z : State) (a0 : Array Value) (hw : ∀ d ∈ tables_1, d.before a0 Z = true) (ws : List Jvm.Cond) (a1 : Addr) (q2 : Int64) (q3 : Int64) (a4 : Addr) (a5 : Addr) (h0 : Heap) (n0 : Nat) (Z0 : n0 ≤ h0.size) (E0 : Exa Z h0 a1 c_0) (F1 : Fld Z h0 a1 c_0 "id" "J" (.long (0 : Int64))) (F2 : Fld Z h0 a1 c_0 "power" "J" (.long (0 : Int64))) (F3 : Fld Z h0 a1 c_0 "units" "[I" .null) (F4 : Fld Z h0 a1 c_0 "licences" "[I" .null) (g1 : n0 ≤ a1) :
    MetFree l y_2 (head1 (Jvm.Cond.code y_2 prog_150_method_1_code 7 none :: ws) ({ frames := 2, cells := 0, slots := 0, locals := 24 } : Room)) (fun a U => a = #[(.ref a1), (.long q2), (.long q3), (.ref a4), (.ref a5)] ∧ Z.Warmed39 U.vm ∧ U.heap = h0) (fun _ _ _ _ _ => True) (fun _ U o U' => ∃ v L, o = .returned v ∧ Q2 Z a1 q2 q3 a4 a5 h0 n0 v U'.heap L ∧ FrameEnd U o U' L ({ frames := 2, cells := 0, slots := 0, locals := 24 } : Room).cells ({ frames := 2, cells := 0, slots := 0, locals := 24 } : Room).slots) := by
  refine MetFree.of_bodySF (plainFor_of_name pn_2) hisR ?_
  intro p e s m args below meth c s₁ Bd hml0 hP hK
  obtain ⟨rfl, hZ, hh⟩ := hP
  have hx := Bd.exec
  have hby := Bd.bytes
  have hml : c.maxLocals = 7 := hml0
  have hown : s.vm.findClass "com/example/slackline/slackline/workload/Farm$Machine" = some m.cls := findClass_of_methodNamed Bd.named
  have hnm := (name_of_methodNamed Bd.named Bd.method).1
  have X0 : Stand p l e ({ frames := 2, cells := 0, slots := 0, locals := 24 } : Room) s m #[(.ref a1), (.long q2), (.long q3), (.ref a4), (.ref a5)] below meth c s₁ [] 0 0 := Stand.of_body Bd
  have e0 : s₁.heap = h0 := by rw [← hh, Bd.state]; rfl
  have N0 := Fr.nil n0
  have K0 : Keep h0 h0 [a1] := Keep.refl h0 [a1]
  obtain ⟨F0, hF0⟩ : ∃ F : JFrame, F = entryFrame m #[(.ref a1), (.long q2), (.long q3), (.ref a4), (.ref a5)] 7 := ⟨_, rfl⟩
  have pre0 : ∀ t, Steps p.tables e below (s₁.setTop F0) t → Steps p.tables e below (s₁.setTop (entryFrame m #[(.ref a1), (.long q2), (.long q3), (.ref a4), (.ref a5)] 7)) t := fun t k => hF0 ▸ k
  have go0 : Go p e below s₁ F0 s₁ (mkF m 0 #[vr a1, vj q2, .second, vj q3, .second, vr a4, vr a5] []) := fun t k => castTop (hF0.trans (ef_2 m a1 q2 q3 a4 a5)) k
  have go1 : Go p e below s₁ F0 s₁ (mkF m 1 #[vr a1, vj q2, .second, vj q3, .second, vr a4, vr a5] [(.ref a1)]) := by
    intro t_ k_
    refine go0 t_ ?_
    refine o_aloadN X0 hx (hb hby d2_0) rfl rfl ?_
    exact k_
  obtain ⟨_, _, ⟨T2, L2, k2, n2⟩, -, X2, ⟨Lc2, hQ2, l2, y2, z2⟩, st2⟩ := X0.specialBack hx (y := y_0) rfl hown (mvT hZ (own_w hw 12 rfl)) (mvT hZ (own_w hw 13 rfl)) (mvT hZ (own_w hw 16 rfl)) (by decide) (backOf (W := 0) (rm3 l Z a0 hw [] a1 h0 n0 Z0 ) hZ (own_w hw 16 rfl) (own_w hw 15 rfl) (by decide) (by decide)) (g := (mkF m 1 #[vr a1, vj q2, .second, vj q3, .second, vr a4, vr a5] [(.ref a1)])) rfl (by rw [hml]; rfl) (Steps.refl _) (a := a1) (argsL := []) (rest := []) (lenOf pd2_0 rfl) rfl (by show 2 * 0 + _ ≤ _; exact Nat.le_of_eq rfl) (hb hby d2_1) (fun _ _ => ⟨rfl, e0, (by decide : 0 + 0 ≤ _), (by decide : 0 + 0 ≤ _)⟩)
  dsimp only [Pt.U, Pt.locs, Pt.cells, Pt.slots] at X2 l2 y2 z2 st2 hQ2
  subst l2 y2 z2
  obtain ⟨rfl, Nq2, eh2⟩ := hQ2
  have N2 := Fr.app N0 Nq2
  have go3 : Go p e below s₁ F0 T2 (mkF m 4 #[vr a1, vj q2, .second, vj q3, .second, vr a4, vr a5] []) := fun t_ k_ => go1 t_ (st2.trans k_)
  have go4 : Go p e below s₁ F0 T2 (mkF m 6 #[vr a1, vj q2, .second, vj q3, .second, vr a4, vr a5] [(.long q2), (.ref a1)]) := by
    intro t_ k_
    refine go3 t_ ?_
    refine o_aloadN X2 hx (hb hby d2_4) rfl rfl ?_
    refine o_lloadN X2 hx (hb hby d2_5) rfl ?_
    exact k_
  obtain ⟨T5, h5, X5, e5, W5, st5⟩ := putF X2 hx hZ hown (host := "") (Or.inl (own_w hw 20 rfl)) Via.refl eh2 F1 E0 (Or.inr ⟨(own_w hw 21 rfl), rfl, hnm⟩) (own_w hw 6 rfl) (ty := .long) (by decide) rfl rfl (g := (mkF m 6 #[vr a1, vj q2, .second, vj q3, .second, vr a4, vr a5] [(.long q2), (.ref a1)])) rfl rfl (hb hby d2_6)
  have Fw5 : Fld Z h5 a1 c_0 "id" "J" (.long q2) := Fld.same W5 F1
  have K6 : Keep h0 h5 [a1] := K0.wr W5 (Or.inl (List.mem_of_getElem? (i := 0) rfl))
  have Z6 : n0 ≤ h5.size := Nat.le_trans Z0 (Keep.of_wr W5).1
  have N5 := Fr.snoc X5 N2 g1
  have go7 : Go p e below s₁ F0 T5 (mkF m 9 #[vr a1, vj q2, .second, vj q3, .second, vr a4, vr a5] []) := fun t_ k_ => go4 t_ (st5 t_ k_)
  have F8 : Exa Z h5 a1 c_0 := (E0.wr W5)
  have F9 : Fld Z h5 a1 c_0 "power" "J" (.long (0 : Int64)) := (F2.other W5 (Or.inr (slot_ne (Or.inr (own_w hw 23 rfl)) (Or.inr (own_w hw 21 rfl)) (by decide) (t := .long) (t' := .long) (by decide) (by decide))))
  have go10 : Go p e below s₁ F0 T5 (mkF m 11 #[vr a1, vj q2, .second, vj q3, .second, vr a4, vr a5] [(.long q3), (.ref a1)]) := by
    intro t_ k_
    refine go7 t_ ?_
    refine o_aloadN X5 hx (hb hby d2_9) rfl rfl ?_
    refine o_lloadN X5 hx (hb hby d2_10) rfl ?_
    exact k_
  obtain ⟨T11, h11, X11, e11, W11, st11⟩ := putF X5 hx hZ hown (host := "") (Or.inl (own_w hw 22 rfl)) Via.refl e5 F9 F8 (Or.inr ⟨(own_w hw 23 rfl), rfl, hnm⟩) (own_w hw 6 rfl) (ty := .long) (by decide) rfl rfl (g := (mkF m 11 #[vr a1, vj q2, .second, vj q3, .second, vr a4, vr a5] [(.long q3), (.ref a1)])) rfl rfl (hb hby d2_11)
  have Fw11 : Fld Z h11 a1 c_0 "power" "J" (.long q3) := Fld.same W11 F9
  have K12 : Keep h0 h11 [a1] := K6.wr W11 (Or.inl (List.mem_of_getElem? (i := 0) rfl))
  have Z12 : n0 ≤ h11.size := Nat.le_trans Z6 (Keep.of_wr W11).1
  have N11 := Fr.snoc X11 N5 g1
  have go13 : Go p e below s₁ F0 T11 (mkF m 14 #[vr a1, vj q2, .second, vj q3, .second, vr a4, vr a5] []) := fun t_ k_ => go10 t_ (st11 t_ k_)
  have F14 : Exa Z h11 a1 c_0 := (F8.wr W11)
  have F15 : Fld Z h11 a1 c_0 "units" "[I" .null := ((F3.other W5 (Or.inr (slot_ne (Or.inr (own_w hw 25 rfl)) (Or.inr (own_w hw 21 rfl)) (by decide) (t := (.array .int)) (t' := .long) (by decide) (by decide)))).other W11 (Or.inr (slot_ne (Or.inr (own_w hw 25 rfl)) (Or.inr (own_w hw 23 rfl)) (by decide) (t := (.array .int)) (t' := .long) (by decide) (by decide))))
  have go16 : Go p e below s₁ F0 T11 (mkF m 17 #[vr a1, vj q2, .second, vj q3, .second, vr a4, vr a5] [(.ref a4), (.ref a1)]) := by
    intro t_ k_
    refine go13 t_ ?_
    refine o_aloadN X11 hx (hb hby d2_14) rfl rfl ?_
    refine o_aload X11 hx (hb hby d2_15) rfl rfl ?_
    exact k_
  obtain ⟨T17, h17, X17, e17, W17, st17⟩ := putF X11 hx hZ hown (host := "") (Or.inl (own_w hw 24 rfl)) Via.refl e11 F15 F14 (Or.inr ⟨(own_w hw 25 rfl), rfl, hnm⟩) (own_w hw 6 rfl) (ty := (.array .int)) (by decide) rfl rfl (g := (mkF m 17 #[vr a1, vj q2, .second, vj q3, .second, vr a4, vr a5] [(.ref a4), (.ref a1)])) rfl rfl (hb hby d2_17)
  have Fw17 : Fld Z h17 a1 c_0 "units" "[I" (.ref a4) := Fld.same W17 F15
  have K18 : Keep h0 h17 [a1] := K12.wr W17 (Or.inl (List.mem_of_getElem? (i := 0) rfl))
  have Z18 : n0 ≤ h17.size := Nat.le_trans Z12 (Keep.of_wr W17).1
  have N17 := Fr.snoc X17 N11 g1
  have go19 : Go p e below s₁ F0 T17 (mkF m 20 #[vr a1, vj q2, .second, vj q3, .second, vr a4, vr a5] []) := fun t_ k_ => go16 t_ (st17 t_ k_)
  have F20 : Exa Z h17 a1 c_0 := (F14.wr W17)
  have F21 : Fld Z h17 a1 c_0 "licences" "[I" .null := (((F4.other W5 (Or.inr (slot_ne (Or.inr (own_w hw 27 rfl)) (Or.inr (own_w hw 21 rfl)) (by decide) (t := (.array .int)) (t' := .long) (by decide) (by decide)))).other W11 (Or.inr (slot_ne (Or.inr (own_w hw 27 rfl)) (Or.inr (own_w hw 23 rfl)) (by decide) (t := (.array .int)) (t' := .long) (by decide) (by decide)))).other W17 (Or.inr (slot_ne (Or.inr (own_w hw 27 rfl)) (Or.inr (own_w hw 25 rfl)) (by decide) (t := (.array .int)) (t' := (.array .int)) (by decide) (by decide))))
  have go22 : Go p e below s₁ F0 T17 (mkF m 23 #[vr a1, vj q2, .second, vj q3, .second, vr a4, vr a5] [(.ref a5), (.ref a1)]) := by
    intro t_ k_
    refine go19 t_ ?_
    refine o_aloadN X17 hx (hb hby d2_20) rfl rfl ?_
    refine o_aload X17 hx (hb hby d2_21) rfl rfl ?_
    exact k_
  obtain ⟨T23, h23, X23, e23, W23, st23⟩ := putF X17 hx hZ hown (host := "") (Or.inl (own_w hw 26 rfl)) Via.refl e17 F21 F20 (Or.inr ⟨(own_w hw 27 rfl), rfl, hnm⟩) (own_w hw 6 rfl) (ty := (.array .int)) (by decide) rfl rfl (g := (mkF m 23 #[vr a1, vj q2, .second, vj q3, .second, vr a4, vr a5] [(.ref a5), (.ref a1)])) rfl rfl (hb hby d2_23)
  have Fw23 : Fld Z h23 a1 c_0 "licences" "[I" (.ref a5) := Fld.same W23 F21
  have K24 : Keep h0 h23 [a1] := K18.wr W23 (Or.inl (List.mem_of_getElem? (i := 0) rfl))
  have Z24 : n0 ≤ h23.size := Nat.le_trans Z18 (Keep.of_wr W23).1
  have N23 := Fr.snoc X23 N17 g1
  have go25 : Go p e below s₁ F0 T23 (mkF m 26 #[vr a1, vj q2, .second, vj q3, .second, vr a4, vr a5] []) := fun t_ k_ => go22 t_ (st23 t_ k_)
  obtain ⟨fs, hr, hrun, hended, hW, hsame⟩ := X23.leave (v := none) (fun _ => rfl)
  refine ⟨_, _, pre0 _ (go25 _ ?_), hrun, hended, _, _, rfl, ?_, ⟨_, rfl⟩, hW, hsame.mono (by decide) (by decide)⟩
  · skip
    exact X23.returnOut hx Bd.returns (hb hby d2_26) hr
  · show Q2 Z a1 q2 q3 a4 a5 h0 n0 _ T23.heap _
    rw [e23]
    exact ⟨rfl, N23, K24, Fw23⟩

theorem d5_0 : decode method_3_code 0 = .ok (.iload_n 0, 1) := by decide +kernel
theorem d5_1 : decode method_3_code 1 = .ok (.ifCond .le 9, 3) := by decide +kernel
theorem d5_10 : decode method_3_code 10 = .ok (.iload_n 0, 1) := by decide +kernel
theorem d5_11 : decode method_3_code 11 = .ok (.iconst 1, 1) := by decide +kernel
theorem d5_12 : decode method_3_code 12 = .ok (.if_icmp .le 9, 3) := by decide +kernel
theorem d5_21 : decode method_3_code 21 = .ok (.iload_n 0, 1) := by decide +kernel
theorem d5_22 : decode method_3_code 22 = .ok (.iconst 2, 1) := by decide +kernel
theorem d5_23 : decode method_3_code 23 = .ok (.if_icmp .le 13, 3) := by decide +kernel
theorem d5_36 : decode method_3_code 36 = .ok (.iconst 0, 1) := by decide +kernel
theorem d5_37 : decode method_3_code 37 = .ok (.ireturn, 1) := by decide +kernel
theorem pn_5_0 : plainName "com/example/slackline/slackline/workload/MachineListsPinLaw" = true := by first | (simp [plainName, overriddenIn]; done) | decide +kernel
theorem ef_5_0 (m : MethodId) (x1 : Int32) (x2 : Int32) (x3 : Int32) (x4 : Int32) : entryFrame m #[(.int (0 : Int32)), (.int x1), (.int x2), (.int x3), (.int x4)] 5 = mkF m 0 #[vi (0 : Int32), vi x1, vi x2, vi x3, vi x4] [] := by first | (simp [entryFrame, mkF, argsToLocals, Value.category]; done) | rfl
def f5_0 (p2 : Int32) (p3 : Int32) (p4 : Int32) (p5 : Int32) : Int32 := (0 : Int32)
def Q5_0 (Z : State) (p2 : Int32) (p3 : Int32) (p4 : Int32) (p5 : Int32) (h0 : Heap) (n0 : Nat) (v : Option Value) (h : Heap) (L : List Loc) : Prop := v = some (.int (f5_0 p2 p3 p4 p5)) ∧ Fr n0 L ∧ h = h0
set_option maxRecDepth 65536 in
set_option maxHeartbeats 40000000 in
theorem rm5_0 (l : Launch) (Z : State) (a0 : Array Value) (hw : ∀ d ∈ tables_1, d.before a0 Z = true) (ws : List Jvm.Cond) (p2 : Int32) (p3 : Int32) (p4 : Int32) (p5 : Int32) (h0 : Heap) (n0 : Nat) (Z0 : n0 ≤ h0.size) :
    MetFree l y_3 (head1 (Jvm.Cond.code y_3 method_3_code 5 (some .boolean) :: ws) ({ frames := 0, cells := 0, slots := 0, locals := 0 } : Room)) (fun a U => a = #[(.int (0 : Int32)), (.int p2), (.int p3), (.int p4), (.int p5)] ∧ Z.Warmed39 U.vm ∧ U.heap = h0) (fun _ _ _ _ _ => True) (fun _ U o U' => ∃ v L, o = .returned v ∧ Q5_0 Z p2 p3 p4 p5 h0 n0 v U'.heap L ∧ FrameEnd U o U' L ({ frames := 0, cells := 0, slots := 0, locals := 0 } : Room).cells ({ frames := 0, cells := 0, slots := 0, locals := 0 } : Room).slots) := by
  refine MetFree.of_bodySF (plainFor_of_name pn_5_0) hisR ?_
  intro p e s m args below meth c s₁ Bd hml0 hP hK
  obtain ⟨rfl, hZ, hh⟩ := hP
  have hx := Bd.exec
  have hby := Bd.bytes
  have hml : c.maxLocals = 5 := hml0
  have hown : s.vm.findClass "com/example/slackline/slackline/workload/MachineListsPinLaw" = some m.cls := findClass_of_methodNamed Bd.named
  have hnm := (name_of_methodNamed Bd.named Bd.method).1
  have X0 : Stand p l e ({ frames := 0, cells := 0, slots := 0, locals := 0 } : Room) s m #[(.int (0 : Int32)), (.int p2), (.int p3), (.int p4), (.int p5)] below meth c s₁ [] 0 0 := Stand.of_body Bd
  have e0 : s₁.heap = h0 := by rw [← hh, Bd.state]; rfl
  have N0 := Fr.nil n0
  obtain ⟨F0, hF0⟩ : ∃ F : JFrame, F = entryFrame m #[(.int (0 : Int32)), (.int p2), (.int p3), (.int p4), (.int p5)] 5 := ⟨_, rfl⟩
  have pre0 : ∀ t, Steps p.tables e below (s₁.setTop F0) t → Steps p.tables e below (s₁.setTop (entryFrame m #[(.int (0 : Int32)), (.int p2), (.int p3), (.int p4), (.int p5)] 5)) t := fun t k => hF0 ▸ k
  have go0 : Go p e below s₁ F0 s₁ (mkF m 0 #[vi (0 : Int32), vi p2, vi p3, vi p4, vi p5] []) := fun t k => castTop (hF0.trans (ef_5_0 m p2 p3 p4 p5)) k
  have go1 : Go p e below s₁ F0 s₁ (mkF m 37 #[vi (0 : Int32), vi p2, vi p3, vi p4, vi p5] [(.int (0 : Int32))]) := by
    intro t_ k_
    refine go0 t_ ?_
    refine o_iloadN X0 hx (hb hby d5_0) rfl ?_
    refine o_ifYes X0 hx (hb hby d5_1) (pc' := 10) rfl (by decide) ((if0 _ _).trans (flt (by decide : ¬ ((0 : Int32) < (0 : Int32)))).2.2.2) ?_
    refine o_iloadN X0 hx (hb hby d5_10) rfl ?_
    refine o_iconst X0 hx (hb hby d5_11) (v := 1) rfl ?_
    refine o_icmpYes X0 hx (hb hby d5_12) (pc' := 21) rfl (by decide) (flt (by decide : ¬ ((1 : Int32) < (0 : Int32)))).2.2.2 ?_
    refine o_iloadN X0 hx (hb hby d5_21) rfl ?_
    refine o_iconst X0 hx (hb hby d5_22) (v := 2) rfl ?_
    refine o_icmpYes X0 hx (hb hby d5_23) (pc' := 36) rfl (by decide) (flt (by decide : ¬ ((2 : Int32) < (0 : Int32)))).2.2.2 ?_
    refine o_iconst X0 hx (hb hby d5_36) (v := 0) rfl ?_
    exact k_
  obtain ⟨fs, hr, hrun, hended, hW, hsame⟩ := X0.leave (v := some (.int (0 : Int32))) (fun h => by rw [Bd.returns] at h; cases h)
  refine ⟨_, _, pre0 _ (go1 _ ?_), hrun, hended, _, _, rfl, ?_, ⟨_, rfl⟩, hW, hsame.mono (by decide) (by decide)⟩
  · skip
    exact retN X0 hx (t := .boolean) Bd.returns (by simp) (hb hby d5_37) hr
  · show Q5_0 Z p2 p3 p4 p5 h0 n0 _ s₁.heap _
    rw [e0]
    exact ⟨(congrArg (fun z => some (Value.int z)) (show (0 : Int32) = f5_0 p2 p3 p4 p5 from by unfold f5_0; rfl)), N0, rfl⟩

theorem d5_4 : decode method_3_code 4 = .ok (.iload_n 1, 1) := by decide +kernel
theorem d5_5 : decode method_3_code 5 = .ok (.iload 4, 2) := by decide +kernel
theorem d5_7 : decode method_3_code 7 = .ok (.if_icmp .eq 25, 3) := by decide +kernel
theorem d5_32 : decode method_3_code 32 = .ok (.iconst 1, 1) := by decide +kernel
theorem d5_33 : decode method_3_code 33 = .ok (.goto 4, 3) := by decide +kernel
theorem pn_5_1 : plainName "com/example/slackline/slackline/workload/MachineListsPinLaw" = true := by first | (simp [plainName, overriddenIn]; done) | decide +kernel
theorem ef_5_1 (m : MethodId) (x1 : Int32) (x2 : Int32) (x3 : Int32) (x4 : Int32) : entryFrame m #[(.int (1 : Int32)), (.int x1), (.int x2), (.int x3), (.int x4)] 5 = mkF m 0 #[vi (1 : Int32), vi x1, vi x2, vi x3, vi x4] [] := by first | (simp [entryFrame, mkF, argsToLocals, Value.category]; done) | rfl
def f5_1 (p2 : Int32) (p3 : Int32) (p4 : Int32) (p5 : Int32) : Int32 := (if p2 = p5 then (1 : Int32) else (0 : Int32))
def Q5_1 (Z : State) (p2 : Int32) (p3 : Int32) (p4 : Int32) (p5 : Int32) (h0 : Heap) (n0 : Nat) (v : Option Value) (h : Heap) (L : List Loc) : Prop := v = some (.int (f5_1 p2 p3 p4 p5)) ∧ Fr n0 L ∧ h = h0
set_option maxRecDepth 65536 in
set_option maxHeartbeats 40000000 in
theorem rm5_1 (l : Launch) (Z : State) (a0 : Array Value) (hw : ∀ d ∈ tables_1, d.before a0 Z = true) (ws : List Jvm.Cond) (p2 : Int32) (p3 : Int32) (p4 : Int32) (p5 : Int32) (h0 : Heap) (n0 : Nat) (Z0 : n0 ≤ h0.size) :
    MetFree l y_3 (head1 (Jvm.Cond.code y_3 method_3_code 5 (some .boolean) :: ws) ({ frames := 0, cells := 0, slots := 0, locals := 0 } : Room)) (fun a U => a = #[(.int (1 : Int32)), (.int p2), (.int p3), (.int p4), (.int p5)] ∧ Z.Warmed39 U.vm ∧ U.heap = h0) (fun _ _ _ _ _ => True) (fun _ U o U' => ∃ v L, o = .returned v ∧ Q5_1 Z p2 p3 p4 p5 h0 n0 v U'.heap L ∧ FrameEnd U o U' L ({ frames := 0, cells := 0, slots := 0, locals := 0 } : Room).cells ({ frames := 0, cells := 0, slots := 0, locals := 0 } : Room).slots) := by
  refine MetFree.of_bodySF (plainFor_of_name pn_5_1) hisR ?_
  intro p e s m args below meth c s₁ Bd hml0 hP hK
  obtain ⟨rfl, hZ, hh⟩ := hP
  have hx := Bd.exec
  have hby := Bd.bytes
  have hml : c.maxLocals = 5 := hml0
  have hown : s.vm.findClass "com/example/slackline/slackline/workload/MachineListsPinLaw" = some m.cls := findClass_of_methodNamed Bd.named
  have hnm := (name_of_methodNamed Bd.named Bd.method).1
  have X0 : Stand p l e ({ frames := 0, cells := 0, slots := 0, locals := 0 } : Room) s m #[(.int (1 : Int32)), (.int p2), (.int p3), (.int p4), (.int p5)] below meth c s₁ [] 0 0 := Stand.of_body Bd
  have e0 : s₁.heap = h0 := by rw [← hh, Bd.state]; rfl
  have N0 := Fr.nil n0
  obtain ⟨F0, hF0⟩ : ∃ F : JFrame, F = entryFrame m #[(.int (1 : Int32)), (.int p2), (.int p3), (.int p4), (.int p5)] 5 := ⟨_, rfl⟩
  have pre0 : ∀ t, Steps p.tables e below (s₁.setTop F0) t → Steps p.tables e below (s₁.setTop (entryFrame m #[(.int (1 : Int32)), (.int p2), (.int p3), (.int p4), (.int p5)] 5)) t := fun t k => hF0 ▸ k
  have go0 : Go p e below s₁ F0 s₁ (mkF m 0 #[vi (1 : Int32), vi p2, vi p3, vi p4, vi p5] []) := fun t k => castTop (hF0.trans (ef_5_1 m p2 p3 p4 p5)) k
  have go1 : Go p e below s₁ F0 s₁ (mkF m 7 #[vi (1 : Int32), vi p2, vi p3, vi p4, vi p5] [(.int p5), (.int p2)]) := by
    intro t_ k_
    refine go0 t_ ?_
    refine o_iloadN X0 hx (hb hby d5_0) rfl ?_
    refine o_ifNo X0 hx (hb hby d5_1) ((if0 _ _).trans (tlt (by decide : (0 : Int32) < (1 : Int32))).2.2.2) ?_
    refine o_iloadN X0 hx (hb hby d5_4) rfl ?_
    refine o_iload X0 hx (hb hby d5_5) rfl ?_
    exact k_
  by_cases hc7_2 : p2 = p5
  · skip
    have go3 : Go p e below s₁ F0 s₁ (mkF m 37 #[vi (1 : Int32), vi p2, vi p3, vi p4, vi p5] [(.int (1 : Int32))]) := by
      intro t_ k_
      refine go1 t_ ?_
      refine o_icmpYes X0 hx (hb hby d5_7) (pc' := 32) rfl (by decide) (teq hc7_2).1 ?_
      refine o_iconst X0 hx (hb hby d5_32) (v := 1) rfl ?_
      refine o_goto X0 hx (hb hby d5_33) (pc' := 37) rfl (by decide) ?_
      exact k_
    obtain ⟨fs, hr, hrun, hended, hW, hsame⟩ := X0.leave (v := some (.int (1 : Int32))) (fun h => by rw [Bd.returns] at h; cases h)
    refine ⟨_, _, pre0 _ (go3 _ ?_), hrun, hended, _, _, rfl, ?_, ⟨_, rfl⟩, hW, hsame.mono (by decide) (by decide)⟩
    · skip
      exact retN X0 hx (t := .boolean) Bd.returns (by simp) (hb hby d5_37) hr
    · show Q5_1 Z p2 p3 p4 p5 h0 n0 _ s₁.heap _
      rw [e0]
      exact ⟨(congrArg (fun z => some (Value.int z)) (show (1 : Int32) = f5_1 p2 p3 p4 p5 from by unfold f5_1; rw [if_pos hc7_2])), N0, rfl⟩
  · skip
    have go4 : Go p e below s₁ F0 s₁ (mkF m 37 #[vi (1 : Int32), vi p2, vi p3, vi p4, vi p5] [(.int (0 : Int32))]) := by
      intro t_ k_
      refine go1 t_ ?_
      refine o_icmpNo X0 hx (hb hby d5_7) (feq hc7_2).1 ?_
      refine o_iloadN X0 hx (hb hby d5_10) rfl ?_
      refine o_iconst X0 hx (hb hby d5_11) (v := 1) rfl ?_
      refine o_icmpYes X0 hx (hb hby d5_12) (pc' := 21) rfl (by decide) (flt (by decide : ¬ ((1 : Int32) < (1 : Int32)))).2.2.2 ?_
      refine o_iloadN X0 hx (hb hby d5_21) rfl ?_
      refine o_iconst X0 hx (hb hby d5_22) (v := 2) rfl ?_
      refine o_icmpYes X0 hx (hb hby d5_23) (pc' := 36) rfl (by decide) (flt (by decide : ¬ ((2 : Int32) < (1 : Int32)))).2.2.2 ?_
      refine o_iconst X0 hx (hb hby d5_36) (v := 0) rfl ?_
      exact k_
    obtain ⟨fs, hr, hrun, hended, hW, hsame⟩ := X0.leave (v := some (.int (0 : Int32))) (fun h => by rw [Bd.returns] at h; cases h)
    refine ⟨_, _, pre0 _ (go4 _ ?_), hrun, hended, _, _, rfl, ?_, ⟨_, rfl⟩, hW, hsame.mono (by decide) (by decide)⟩
    · skip
      exact retN X0 hx (t := .boolean) Bd.returns (by simp) (hb hby d5_37) hr
    · show Q5_1 Z p2 p3 p4 p5 h0 n0 _ s₁.heap _
      rw [e0]
      exact ⟨(congrArg (fun z => some (Value.int z)) (show (0 : Int32) = f5_1 p2 p3 p4 p5 from by unfold f5_1; rw [if_neg hc7_2])), N0, rfl⟩

theorem d5_15 : decode method_3_code 15 = .ok (.iload_n 2, 1) := by decide +kernel
theorem d5_16 : decode method_3_code 16 = .ok (.iload 4, 2) := by decide +kernel
theorem d5_18 : decode method_3_code 18 = .ok (.if_icmp .eq 14, 3) := by decide +kernel
theorem pn_5_2 : plainName "com/example/slackline/slackline/workload/MachineListsPinLaw" = true := by first | (simp [plainName, overriddenIn]; done) | decide +kernel
theorem ef_5_2 (m : MethodId) (x1 : Int32) (x2 : Int32) (x3 : Int32) (x4 : Int32) : entryFrame m #[(.int (2 : Int32)), (.int x1), (.int x2), (.int x3), (.int x4)] 5 = mkF m 0 #[vi (2 : Int32), vi x1, vi x2, vi x3, vi x4] [] := by first | (simp [entryFrame, mkF, argsToLocals, Value.category]; done) | rfl
def f5_2 (p2 : Int32) (p3 : Int32) (p4 : Int32) (p5 : Int32) : Int32 := (if p2 = p5 then (1 : Int32) else (if p3 = p5 then (1 : Int32) else (0 : Int32)))
def Q5_2 (Z : State) (p2 : Int32) (p3 : Int32) (p4 : Int32) (p5 : Int32) (h0 : Heap) (n0 : Nat) (v : Option Value) (h : Heap) (L : List Loc) : Prop := v = some (.int (f5_2 p2 p3 p4 p5)) ∧ Fr n0 L ∧ h = h0
set_option maxRecDepth 65536 in
set_option maxHeartbeats 40000000 in
theorem rm5_2 (l : Launch) (Z : State) (a0 : Array Value) (hw : ∀ d ∈ tables_1, d.before a0 Z = true) (ws : List Jvm.Cond) (p2 : Int32) (p3 : Int32) (p4 : Int32) (p5 : Int32) (h0 : Heap) (n0 : Nat) (Z0 : n0 ≤ h0.size) :
    MetFree l y_3 (head1 (Jvm.Cond.code y_3 method_3_code 5 (some .boolean) :: ws) ({ frames := 0, cells := 0, slots := 0, locals := 0 } : Room)) (fun a U => a = #[(.int (2 : Int32)), (.int p2), (.int p3), (.int p4), (.int p5)] ∧ Z.Warmed39 U.vm ∧ U.heap = h0) (fun _ _ _ _ _ => True) (fun _ U o U' => ∃ v L, o = .returned v ∧ Q5_2 Z p2 p3 p4 p5 h0 n0 v U'.heap L ∧ FrameEnd U o U' L ({ frames := 0, cells := 0, slots := 0, locals := 0 } : Room).cells ({ frames := 0, cells := 0, slots := 0, locals := 0 } : Room).slots) := by
  refine MetFree.of_bodySF (plainFor_of_name pn_5_2) hisR ?_
  intro p e s m args below meth c s₁ Bd hml0 hP hK
  obtain ⟨rfl, hZ, hh⟩ := hP
  have hx := Bd.exec
  have hby := Bd.bytes
  have hml : c.maxLocals = 5 := hml0
  have hown : s.vm.findClass "com/example/slackline/slackline/workload/MachineListsPinLaw" = some m.cls := findClass_of_methodNamed Bd.named
  have hnm := (name_of_methodNamed Bd.named Bd.method).1
  have X0 : Stand p l e ({ frames := 0, cells := 0, slots := 0, locals := 0 } : Room) s m #[(.int (2 : Int32)), (.int p2), (.int p3), (.int p4), (.int p5)] below meth c s₁ [] 0 0 := Stand.of_body Bd
  have e0 : s₁.heap = h0 := by rw [← hh, Bd.state]; rfl
  have N0 := Fr.nil n0
  obtain ⟨F0, hF0⟩ : ∃ F : JFrame, F = entryFrame m #[(.int (2 : Int32)), (.int p2), (.int p3), (.int p4), (.int p5)] 5 := ⟨_, rfl⟩
  have pre0 : ∀ t, Steps p.tables e below (s₁.setTop F0) t → Steps p.tables e below (s₁.setTop (entryFrame m #[(.int (2 : Int32)), (.int p2), (.int p3), (.int p4), (.int p5)] 5)) t := fun t k => hF0 ▸ k
  have go0 : Go p e below s₁ F0 s₁ (mkF m 0 #[vi (2 : Int32), vi p2, vi p3, vi p4, vi p5] []) := fun t k => castTop (hF0.trans (ef_5_2 m p2 p3 p4 p5)) k
  have go1 : Go p e below s₁ F0 s₁ (mkF m 7 #[vi (2 : Int32), vi p2, vi p3, vi p4, vi p5] [(.int p5), (.int p2)]) := by
    intro t_ k_
    refine go0 t_ ?_
    refine o_iloadN X0 hx (hb hby d5_0) rfl ?_
    refine o_ifNo X0 hx (hb hby d5_1) ((if0 _ _).trans (tlt (by decide : (0 : Int32) < (2 : Int32))).2.2.2) ?_
    refine o_iloadN X0 hx (hb hby d5_4) rfl ?_
    refine o_iload X0 hx (hb hby d5_5) rfl ?_
    exact k_
  by_cases hc7_2 : p2 = p5
  · skip
    have go3 : Go p e below s₁ F0 s₁ (mkF m 37 #[vi (2 : Int32), vi p2, vi p3, vi p4, vi p5] [(.int (1 : Int32))]) := by
      intro t_ k_
      refine go1 t_ ?_
      refine o_icmpYes X0 hx (hb hby d5_7) (pc' := 32) rfl (by decide) (teq hc7_2).1 ?_
      refine o_iconst X0 hx (hb hby d5_32) (v := 1) rfl ?_
      refine o_goto X0 hx (hb hby d5_33) (pc' := 37) rfl (by decide) ?_
      exact k_
    obtain ⟨fs, hr, hrun, hended, hW, hsame⟩ := X0.leave (v := some (.int (1 : Int32))) (fun h => by rw [Bd.returns] at h; cases h)
    refine ⟨_, _, pre0 _ (go3 _ ?_), hrun, hended, _, _, rfl, ?_, ⟨_, rfl⟩, hW, hsame.mono (by decide) (by decide)⟩
    · skip
      exact retN X0 hx (t := .boolean) Bd.returns (by simp) (hb hby d5_37) hr
    · show Q5_2 Z p2 p3 p4 p5 h0 n0 _ s₁.heap _
      rw [e0]
      exact ⟨(congrArg (fun z => some (Value.int z)) (show (1 : Int32) = f5_2 p2 p3 p4 p5 from by unfold f5_2; rw [if_pos hc7_2])), N0, rfl⟩
  · skip
    have go4 : Go p e below s₁ F0 s₁ (mkF m 18 #[vi (2 : Int32), vi p2, vi p3, vi p4, vi p5] [(.int p5), (.int p3)]) := by
      intro t_ k_
      refine go1 t_ ?_
      refine o_icmpNo X0 hx (hb hby d5_7) (feq hc7_2).1 ?_
      refine o_iloadN X0 hx (hb hby d5_10) rfl ?_
      refine o_iconst X0 hx (hb hby d5_11) (v := 1) rfl ?_
      refine o_icmpNo X0 hx (hb hby d5_12) (tlt (by decide : (1 : Int32) < (2 : Int32))).2.2.2 ?_
      refine o_iloadN X0 hx (hb hby d5_15) rfl ?_
      refine o_iload X0 hx (hb hby d5_16) rfl ?_
      exact k_
    by_cases hc18_5 : p3 = p5
    · skip
      have go6 : Go p e below s₁ F0 s₁ (mkF m 37 #[vi (2 : Int32), vi p2, vi p3, vi p4, vi p5] [(.int (1 : Int32))]) := by
        intro t_ k_
        refine go4 t_ ?_
        refine o_icmpYes X0 hx (hb hby d5_18) (pc' := 32) rfl (by decide) (teq hc18_5).1 ?_
        refine o_iconst X0 hx (hb hby d5_32) (v := 1) rfl ?_
        refine o_goto X0 hx (hb hby d5_33) (pc' := 37) rfl (by decide) ?_
        exact k_
      obtain ⟨fs, hr, hrun, hended, hW, hsame⟩ := X0.leave (v := some (.int (1 : Int32))) (fun h => by rw [Bd.returns] at h; cases h)
      refine ⟨_, _, pre0 _ (go6 _ ?_), hrun, hended, _, _, rfl, ?_, ⟨_, rfl⟩, hW, hsame.mono (by decide) (by decide)⟩
      · skip
        exact retN X0 hx (t := .boolean) Bd.returns (by simp) (hb hby d5_37) hr
      · show Q5_2 Z p2 p3 p4 p5 h0 n0 _ s₁.heap _
        rw [e0]
        exact ⟨(congrArg (fun z => some (Value.int z)) (show (1 : Int32) = f5_2 p2 p3 p4 p5 from by unfold f5_2; rw [if_neg hc7_2, if_pos hc18_5])), N0, rfl⟩
    · skip
      have go7 : Go p e below s₁ F0 s₁ (mkF m 37 #[vi (2 : Int32), vi p2, vi p3, vi p4, vi p5] [(.int (0 : Int32))]) := by
        intro t_ k_
        refine go4 t_ ?_
        refine o_icmpNo X0 hx (hb hby d5_18) (feq hc18_5).1 ?_
        refine o_iloadN X0 hx (hb hby d5_21) rfl ?_
        refine o_iconst X0 hx (hb hby d5_22) (v := 2) rfl ?_
        refine o_icmpYes X0 hx (hb hby d5_23) (pc' := 36) rfl (by decide) (flt (by decide : ¬ ((2 : Int32) < (2 : Int32)))).2.2.2 ?_
        refine o_iconst X0 hx (hb hby d5_36) (v := 0) rfl ?_
        exact k_
      obtain ⟨fs, hr, hrun, hended, hW, hsame⟩ := X0.leave (v := some (.int (0 : Int32))) (fun h => by rw [Bd.returns] at h; cases h)
      refine ⟨_, _, pre0 _ (go7 _ ?_), hrun, hended, _, _, rfl, ?_, ⟨_, rfl⟩, hW, hsame.mono (by decide) (by decide)⟩
      · skip
        exact retN X0 hx (t := .boolean) Bd.returns (by simp) (hb hby d5_37) hr
      · show Q5_2 Z p2 p3 p4 p5 h0 n0 _ s₁.heap _
        rw [e0]
        exact ⟨(congrArg (fun z => some (Value.int z)) (show (0 : Int32) = f5_2 p2 p3 p4 p5 from by unfold f5_2; rw [if_neg hc7_2, if_neg hc18_5])), N0, rfl⟩

theorem d5_26 : decode method_3_code 26 = .ok (.iload_n 3, 1) := by decide +kernel
theorem d5_27 : decode method_3_code 27 = .ok (.iload 4, 2) := by decide +kernel
theorem d5_29 : decode method_3_code 29 = .ok (.if_icmp .ne 7, 3) := by decide +kernel
theorem pn_5_3 : plainName "com/example/slackline/slackline/workload/MachineListsPinLaw" = true := by first | (simp [plainName, overriddenIn]; done) | decide +kernel
theorem ef_5_3 (m : MethodId) (x1 : Int32) (x2 : Int32) (x3 : Int32) (x4 : Int32) : entryFrame m #[(.int (3 : Int32)), (.int x1), (.int x2), (.int x3), (.int x4)] 5 = mkF m 0 #[vi (3 : Int32), vi x1, vi x2, vi x3, vi x4] [] := by first | (simp [entryFrame, mkF, argsToLocals, Value.category]; done) | rfl
def f5_3 (p2 : Int32) (p3 : Int32) (p4 : Int32) (p5 : Int32) : Int32 := (if p2 = p5 then (1 : Int32) else (if p3 = p5 then (1 : Int32) else (if p4 = p5 then (1 : Int32) else (0 : Int32))))
def Q5_3 (Z : State) (p2 : Int32) (p3 : Int32) (p4 : Int32) (p5 : Int32) (h0 : Heap) (n0 : Nat) (v : Option Value) (h : Heap) (L : List Loc) : Prop := v = some (.int (f5_3 p2 p3 p4 p5)) ∧ Fr n0 L ∧ h = h0
set_option maxRecDepth 65536 in
set_option maxHeartbeats 40000000 in
theorem rm5_3 (l : Launch) (Z : State) (a0 : Array Value) (hw : ∀ d ∈ tables_1, d.before a0 Z = true) (ws : List Jvm.Cond) (p2 : Int32) (p3 : Int32) (p4 : Int32) (p5 : Int32) (h0 : Heap) (n0 : Nat) (Z0 : n0 ≤ h0.size) :
    MetFree l y_3 (head1 (Jvm.Cond.code y_3 method_3_code 5 (some .boolean) :: ws) ({ frames := 0, cells := 0, slots := 0, locals := 0 } : Room)) (fun a U => a = #[(.int (3 : Int32)), (.int p2), (.int p3), (.int p4), (.int p5)] ∧ Z.Warmed39 U.vm ∧ U.heap = h0) (fun _ _ _ _ _ => True) (fun _ U o U' => ∃ v L, o = .returned v ∧ Q5_3 Z p2 p3 p4 p5 h0 n0 v U'.heap L ∧ FrameEnd U o U' L ({ frames := 0, cells := 0, slots := 0, locals := 0 } : Room).cells ({ frames := 0, cells := 0, slots := 0, locals := 0 } : Room).slots) := by
  refine MetFree.of_bodySF (plainFor_of_name pn_5_3) hisR ?_
  intro p e s m args below meth c s₁ Bd hml0 hP hK
  obtain ⟨rfl, hZ, hh⟩ := hP
  have hx := Bd.exec
  have hby := Bd.bytes
  have hml : c.maxLocals = 5 := hml0
  have hown : s.vm.findClass "com/example/slackline/slackline/workload/MachineListsPinLaw" = some m.cls := findClass_of_methodNamed Bd.named
  have hnm := (name_of_methodNamed Bd.named Bd.method).1
  have X0 : Stand p l e ({ frames := 0, cells := 0, slots := 0, locals := 0 } : Room) s m #[(.int (3 : Int32)), (.int p2), (.int p3), (.int p4), (.int p5)] below meth c s₁ [] 0 0 := Stand.of_body Bd
  have e0 : s₁.heap = h0 := by rw [← hh, Bd.state]; rfl
  have N0 := Fr.nil n0
  obtain ⟨F0, hF0⟩ : ∃ F : JFrame, F = entryFrame m #[(.int (3 : Int32)), (.int p2), (.int p3), (.int p4), (.int p5)] 5 := ⟨_, rfl⟩
  have pre0 : ∀ t, Steps p.tables e below (s₁.setTop F0) t → Steps p.tables e below (s₁.setTop (entryFrame m #[(.int (3 : Int32)), (.int p2), (.int p3), (.int p4), (.int p5)] 5)) t := fun t k => hF0 ▸ k
  have go0 : Go p e below s₁ F0 s₁ (mkF m 0 #[vi (3 : Int32), vi p2, vi p3, vi p4, vi p5] []) := fun t k => castTop (hF0.trans (ef_5_3 m p2 p3 p4 p5)) k
  have go1 : Go p e below s₁ F0 s₁ (mkF m 7 #[vi (3 : Int32), vi p2, vi p3, vi p4, vi p5] [(.int p5), (.int p2)]) := by
    intro t_ k_
    refine go0 t_ ?_
    refine o_iloadN X0 hx (hb hby d5_0) rfl ?_
    refine o_ifNo X0 hx (hb hby d5_1) ((if0 _ _).trans (tlt (by decide : (0 : Int32) < (3 : Int32))).2.2.2) ?_
    refine o_iloadN X0 hx (hb hby d5_4) rfl ?_
    refine o_iload X0 hx (hb hby d5_5) rfl ?_
    exact k_
  by_cases hc7_2 : p2 = p5
  · skip
    have go3 : Go p e below s₁ F0 s₁ (mkF m 37 #[vi (3 : Int32), vi p2, vi p3, vi p4, vi p5] [(.int (1 : Int32))]) := by
      intro t_ k_
      refine go1 t_ ?_
      refine o_icmpYes X0 hx (hb hby d5_7) (pc' := 32) rfl (by decide) (teq hc7_2).1 ?_
      refine o_iconst X0 hx (hb hby d5_32) (v := 1) rfl ?_
      refine o_goto X0 hx (hb hby d5_33) (pc' := 37) rfl (by decide) ?_
      exact k_
    obtain ⟨fs, hr, hrun, hended, hW, hsame⟩ := X0.leave (v := some (.int (1 : Int32))) (fun h => by rw [Bd.returns] at h; cases h)
    refine ⟨_, _, pre0 _ (go3 _ ?_), hrun, hended, _, _, rfl, ?_, ⟨_, rfl⟩, hW, hsame.mono (by decide) (by decide)⟩
    · skip
      exact retN X0 hx (t := .boolean) Bd.returns (by simp) (hb hby d5_37) hr
    · show Q5_3 Z p2 p3 p4 p5 h0 n0 _ s₁.heap _
      rw [e0]
      exact ⟨(congrArg (fun z => some (Value.int z)) (show (1 : Int32) = f5_3 p2 p3 p4 p5 from by unfold f5_3; rw [if_pos hc7_2])), N0, rfl⟩
  · skip
    have go4 : Go p e below s₁ F0 s₁ (mkF m 18 #[vi (3 : Int32), vi p2, vi p3, vi p4, vi p5] [(.int p5), (.int p3)]) := by
      intro t_ k_
      refine go1 t_ ?_
      refine o_icmpNo X0 hx (hb hby d5_7) (feq hc7_2).1 ?_
      refine o_iloadN X0 hx (hb hby d5_10) rfl ?_
      refine o_iconst X0 hx (hb hby d5_11) (v := 1) rfl ?_
      refine o_icmpNo X0 hx (hb hby d5_12) (tlt (by decide : (1 : Int32) < (3 : Int32))).2.2.2 ?_
      refine o_iloadN X0 hx (hb hby d5_15) rfl ?_
      refine o_iload X0 hx (hb hby d5_16) rfl ?_
      exact k_
    by_cases hc18_5 : p3 = p5
    · skip
      have go6 : Go p e below s₁ F0 s₁ (mkF m 37 #[vi (3 : Int32), vi p2, vi p3, vi p4, vi p5] [(.int (1 : Int32))]) := by
        intro t_ k_
        refine go4 t_ ?_
        refine o_icmpYes X0 hx (hb hby d5_18) (pc' := 32) rfl (by decide) (teq hc18_5).1 ?_
        refine o_iconst X0 hx (hb hby d5_32) (v := 1) rfl ?_
        refine o_goto X0 hx (hb hby d5_33) (pc' := 37) rfl (by decide) ?_
        exact k_
      obtain ⟨fs, hr, hrun, hended, hW, hsame⟩ := X0.leave (v := some (.int (1 : Int32))) (fun h => by rw [Bd.returns] at h; cases h)
      refine ⟨_, _, pre0 _ (go6 _ ?_), hrun, hended, _, _, rfl, ?_, ⟨_, rfl⟩, hW, hsame.mono (by decide) (by decide)⟩
      · skip
        exact retN X0 hx (t := .boolean) Bd.returns (by simp) (hb hby d5_37) hr
      · show Q5_3 Z p2 p3 p4 p5 h0 n0 _ s₁.heap _
        rw [e0]
        exact ⟨(congrArg (fun z => some (Value.int z)) (show (1 : Int32) = f5_3 p2 p3 p4 p5 from by unfold f5_3; rw [if_neg hc7_2, if_pos hc18_5])), N0, rfl⟩
    · skip
      have go7 : Go p e below s₁ F0 s₁ (mkF m 29 #[vi (3 : Int32), vi p2, vi p3, vi p4, vi p5] [(.int p5), (.int p4)]) := by
        intro t_ k_
        refine go4 t_ ?_
        refine o_icmpNo X0 hx (hb hby d5_18) (feq hc18_5).1 ?_
        refine o_iloadN X0 hx (hb hby d5_21) rfl ?_
        refine o_iconst X0 hx (hb hby d5_22) (v := 2) rfl ?_
        refine o_icmpNo X0 hx (hb hby d5_23) (tlt (by decide : (2 : Int32) < (3 : Int32))).2.2.2 ?_
        refine o_iloadN X0 hx (hb hby d5_26) rfl ?_
        refine o_iload X0 hx (hb hby d5_27) rfl ?_
        exact k_
      by_cases hc29_8 : p4 = p5
      · skip
        have go9 : Go p e below s₁ F0 s₁ (mkF m 37 #[vi (3 : Int32), vi p2, vi p3, vi p4, vi p5] [(.int (1 : Int32))]) := by
          intro t_ k_
          refine go7 t_ ?_
          refine o_icmpNo X0 hx (hb hby d5_29) (teq hc29_8).2 ?_
          refine o_iconst X0 hx (hb hby d5_32) (v := 1) rfl ?_
          refine o_goto X0 hx (hb hby d5_33) (pc' := 37) rfl (by decide) ?_
          exact k_
        obtain ⟨fs, hr, hrun, hended, hW, hsame⟩ := X0.leave (v := some (.int (1 : Int32))) (fun h => by rw [Bd.returns] at h; cases h)
        refine ⟨_, _, pre0 _ (go9 _ ?_), hrun, hended, _, _, rfl, ?_, ⟨_, rfl⟩, hW, hsame.mono (by decide) (by decide)⟩
        · skip
          exact retN X0 hx (t := .boolean) Bd.returns (by simp) (hb hby d5_37) hr
        · show Q5_3 Z p2 p3 p4 p5 h0 n0 _ s₁.heap _
          rw [e0]
          exact ⟨(congrArg (fun z => some (Value.int z)) (show (1 : Int32) = f5_3 p2 p3 p4 p5 from by unfold f5_3; rw [if_neg hc7_2, if_neg hc18_5, if_pos hc29_8])), N0, rfl⟩
      · skip
        have go10 : Go p e below s₁ F0 s₁ (mkF m 37 #[vi (3 : Int32), vi p2, vi p3, vi p4, vi p5] [(.int (0 : Int32))]) := by
          intro t_ k_
          refine go7 t_ ?_
          refine o_icmpYes X0 hx (hb hby d5_29) (pc' := 36) rfl (by decide) (feq hc29_8).2 ?_
          refine o_iconst X0 hx (hb hby d5_36) (v := 0) rfl ?_
          exact k_
        obtain ⟨fs, hr, hrun, hended, hW, hsame⟩ := X0.leave (v := some (.int (0 : Int32))) (fun h => by rw [Bd.returns] at h; cases h)
        refine ⟨_, _, pre0 _ (go10 _ ?_), hrun, hended, _, _, rfl, ?_, ⟨_, rfl⟩, hW, hsame.mono (by decide) (by decide)⟩
        · skip
          exact retN X0 hx (t := .boolean) Bd.returns (by simp) (hb hby d5_37) hr
        · show Q5_3 Z p2 p3 p4 p5 h0 n0 _ s₁.heap _
          rw [e0]
          exact ⟨(congrArg (fun z => some (Value.int z)) (show (0 : Int32) = f5_3 p2 p3 p4 p5 from by unfold f5_3; rw [if_neg hc7_2, if_neg hc18_5, if_neg hc29_8])), N0, rfl⟩

theorem d6_0 : decode prog_150_method_2_code 0 = .ok (.iconst 0, 1) := by decide +kernel
theorem d6_1 : decode prog_150_method_2_code 1 = .ok (.istore_n 2, 1) := by decide +kernel
theorem d6_2 : decode prog_150_method_2_code 2 = .ok (.aload_n 1, 1) := by decide +kernel
theorem d6_3 : decode prog_150_method_2_code 3 = .ok (.astore_n 3, 1) := by decide +kernel
theorem d6_4 : decode prog_150_method_2_code 4 = .ok (.aload_n 3, 1) := by decide +kernel
theorem d6_5 : decode prog_150_method_2_code 5 = .ok (.arraylength, 1) := by decide +kernel
theorem d6_6 : decode prog_150_method_2_code 6 = .ok (.istore 4, 2) := by decide +kernel
theorem d6_8 : decode prog_150_method_2_code 8 = .ok (.iconst 0, 1) := by decide +kernel
theorem d6_9 : decode prog_150_method_2_code 9 = .ok (.istore 5, 2) := by decide +kernel
theorem d6_11 : decode prog_150_method_2_code 11 = .ok (.iload 5, 2) := by decide +kernel
theorem d6_13 : decode prog_150_method_2_code 13 = .ok (.iload 4, 2) := by decide +kernel
theorem d6_15 : decode prog_150_method_2_code 15 = .ok (.if_icmp .ge 63, 3) := by decide +kernel
theorem d6_78 : decode prog_150_method_2_code 78 = .ok (.iconst 1, 1) := by decide +kernel
theorem d6_79 : decode prog_150_method_2_code 79 = .ok (.ireturn, 1) := by decide +kernel
theorem pn_6_0_0 : plainName "com/example/slackline/slackline/workload/Farm$Machine" = true := by first | (simp [plainName, overriddenIn]; done) | decide +kernel
theorem ef_6_0_0 (m : MethodId) (x0 : Addr) (x1 : Addr) : entryFrame m #[(.ref x0), (.ref x1)] 7 = mkF m 0 #[vr x0, vr x1, .unset, .unset, .unset, .unset, .unset] [] := by first | (simp [entryFrame, mkF, argsToLocals, Value.category]; done) | rfl
def f6_0_0  : Int32 := (1 : Int32)
def Q6_0_0 (Z : State) (a1 : Addr) (a2 : Addr) (w : Addr) (kw : ClassId) (kn : ClassId) (h0 : Heap) (n0 : Nat) (v : Option Value) (h : Heap) (L : List Loc) : Prop := v = some (.int (f6_0_0 )) ∧ Fr n0 L ∧ h = h0
set_option maxRecDepth 65536 in
set_option maxHeartbeats 40000000 in
theorem rm6_0_0 (l : Launch) (Z : State) (a0 : Array Value) (hw : ∀ d ∈ tables_1, d.before a0 Z = true) (ws : List Jvm.Cond) (a1 : Addr) (a2 : Addr) (w : Addr) (kw : ClassId) (kn : ClassId) (h0 : Heap) (n0 : Nat) (Z0 : n0 ≤ h0.size) (Fl : Fld Z h0 a1 c_0 "licences" "[I" (.ref w)) (VL : Arv Z h0 w kw .int (0 : Int32) [] (.int (0 : Int32))) (VN : Arv Z h0 a2 kn .int (0 : Int32) [] (.int (0 : Int32))) :
    MetFree l y_4 (head1 (Jvm.Cond.code y_4 prog_150_method_2_code 7 (some .boolean) :: ws) ({ frames := 0, cells := 0, slots := 0, locals := 0 } : Room)) (fun a U => a = #[(.ref a1), (.ref a2)] ∧ Z.Warmed39 U.vm ∧ U.heap = h0) (fun _ _ _ _ _ => True) (fun _ U o U' => ∃ v L, o = .returned v ∧ Q6_0_0 Z a1 a2 w kw kn h0 n0 v U'.heap L ∧ FrameEnd U o U' L ({ frames := 0, cells := 0, slots := 0, locals := 0 } : Room).cells ({ frames := 0, cells := 0, slots := 0, locals := 0 } : Room).slots) := by
  refine MetFree.of_bodySF (plainFor_of_name pn_6_0_0) hisR ?_
  intro p e s m args below meth c s₁ Bd hml0 hP hK
  obtain ⟨rfl, hZ, hh⟩ := hP
  have hx := Bd.exec
  have hby := Bd.bytes
  have hml : c.maxLocals = 7 := hml0
  have hown : s.vm.findClass "com/example/slackline/slackline/workload/Farm$Machine" = some m.cls := findClass_of_methodNamed Bd.named
  have hnm := (name_of_methodNamed Bd.named Bd.method).1
  have X0 : Stand p l e ({ frames := 0, cells := 0, slots := 0, locals := 0 } : Room) s m #[(.ref a1), (.ref a2)] below meth c s₁ [] 0 0 := Stand.of_body Bd
  have e0 : s₁.heap = h0 := by rw [← hh, Bd.state]; rfl
  have N0 := Fr.nil n0
  obtain ⟨F0, hF0⟩ : ∃ F : JFrame, F = entryFrame m #[(.ref a1), (.ref a2)] 7 := ⟨_, rfl⟩
  have pre0 : ∀ t, Steps p.tables e below (s₁.setTop F0) t → Steps p.tables e below (s₁.setTop (entryFrame m #[(.ref a1), (.ref a2)] 7)) t := fun t k => hF0 ▸ k
  have go0 : Go p e below s₁ F0 s₁ (mkF m 0 #[vr a1, vr a2, .unset, .unset, .unset, .unset, .unset] []) := fun t k => castTop (hF0.trans (ef_6_0_0 m a1 a2)) k
  have go1 : Go p e below s₁ F0 s₁ (mkF m 5 #[vr a1, vr a2, vi (0 : Int32), vr a2, .unset, .unset, .unset] [(.ref a2)]) := by
    intro t_ k_
    refine go0 t_ ?_
    refine o_iconst X0 hx (hb hby d6_0) (v := 0) rfl ?_
    refine o_istoreN X0 hx (hb hby d6_1) (L' := #[vr a1, vr a2, vi (0 : Int32), .unset, .unset, .unset, .unset]) rfl ?_
    refine o_aloadN X0 hx (hb hby d6_2) rfl rfl ?_
    refine o_astoreN X0 hx (hb hby d6_3) rfl (L' := #[vr a1, vr a2, vi (0 : Int32), vr a2, .unset, .unset, .unset]) rfl ?_
    refine o_aloadN X0 hx (hb hby d6_4) rfl rfl ?_
    exact k_
  obtain ⟨cl2, Ar2, -, Sz2, Nn2, -, -⟩ := id VN
  have go3 : Go p e below s₁ F0 s₁ (mkF m 79 #[vr a1, vr a2, vi (0 : Int32), vr a2, vi (0 : Int32), vi (0 : Int32), .unset] [(.int (1 : Int32))]) := by
    intro t_ k_
    refine go1 t_ ?_
    refine o_len X0 hx hZ e0 Ar2 Sz2 Nn2 (hb hby d6_5) ?_
    refine o_istore X0 hx (hb hby d6_6) (L' := #[vr a1, vr a2, vi (0 : Int32), vr a2, vi (0 : Int32), .unset, .unset]) rfl ?_
    refine o_iconst X0 hx (hb hby d6_8) (v := 0) rfl ?_
    refine o_istore X0 hx (hb hby d6_9) (L' := #[vr a1, vr a2, vi (0 : Int32), vr a2, vi (0 : Int32), vi (0 : Int32), .unset]) rfl ?_
    refine o_iload X0 hx (hb hby d6_11) rfl ?_
    refine o_iload X0 hx (hb hby d6_13) rfl ?_
    refine o_icmpYes X0 hx (hb hby d6_15) (pc' := 78) rfl (by decide) (flt (by decide : ¬ ((0 : Int32) < (0 : Int32)))).2.1 ?_
    refine o_iconst X0 hx (hb hby d6_78) (v := 1) rfl ?_
    exact k_
  obtain ⟨fs, hr, hrun, hended, hW, hsame⟩ := X0.leave (v := some (.int (1 : Int32))) (fun h => by rw [Bd.returns] at h; cases h)
  refine ⟨_, _, pre0 _ (go3 _ ?_), hrun, hended, _, _, rfl, ?_, ⟨_, rfl⟩, hW, hsame.mono (by decide) (by decide)⟩
  · skip
    exact retN X0 hx (t := .boolean) Bd.returns (by simp) (hb hby d6_79) hr
  · show Q6_0_0 Z a1 a2 w kw kn h0 n0 _ s₁.heap _
    rw [e0]
    exact ⟨(congrArg (fun z => some (Value.int z)) (show (1 : Int32) = f6_0_0  from by unfold f6_0_0; rfl)), N0, rfl⟩

theorem d6_18 : decode prog_150_method_2_code 18 = .ok (.aload_n 3, 1) := by decide +kernel
theorem d6_19 : decode prog_150_method_2_code 19 = .ok (.iload 5, 2) := by decide +kernel
theorem d6_21 : decode prog_150_method_2_code 21 = .ok (.iaload, 1) := by decide +kernel
theorem d6_22 : decode prog_150_method_2_code 22 = .ok (.istore 6, 2) := by decide +kernel
theorem d6_24 : decode prog_150_method_2_code 24 = .ok (.iload_n 2, 1) := by decide +kernel
theorem d6_25 : decode prog_150_method_2_code 25 = .ok (.aload_n 0, 1) := by decide +kernel
theorem d6_26 : decode prog_150_method_2_code 26 = .ok (.getfield 20, 3) := by decide +kernel
theorem d6_29 : decode prog_150_method_2_code 29 = .ok (.arraylength, 1) := by decide +kernel
theorem d6_30 : decode prog_150_method_2_code 30 = .ok (.if_icmp .ge 20, 3) := by decide +kernel
theorem d6_50 : decode prog_150_method_2_code 50 = .ok (.iload_n 2, 1) := by decide +kernel
theorem d6_51 : decode prog_150_method_2_code 51 = .ok (.aload_n 0, 1) := by decide +kernel
theorem d6_52 : decode prog_150_method_2_code 52 = .ok (.getfield 20, 3) := by decide +kernel
theorem d6_55 : decode prog_150_method_2_code 55 = .ok (.arraylength, 1) := by decide +kernel
theorem d6_56 : decode prog_150_method_2_code 56 = .ok (.if_icmp .eq 14, 3) := by decide +kernel
theorem d6_70 : decode prog_150_method_2_code 70 = .ok (.iconst 0, 1) := by decide +kernel
theorem d6_71 : decode prog_150_method_2_code 71 = .ok (.ireturn, 1) := by decide +kernel
theorem pn_6_0_1 : plainName "com/example/slackline/slackline/workload/Farm$Machine" = true := by first | (simp [plainName, overriddenIn]; done) | decide +kernel
theorem ef_6_0_1 (m : MethodId) (x0 : Addr) (x1 : Addr) : entryFrame m #[(.ref x0), (.ref x1)] 7 = mkF m 0 #[vr x0, vr x1, .unset, .unset, .unset, .unset, .unset] [] := by first | (simp [entryFrame, mkF, argsToLocals, Value.category]; done) | rfl
def f6_0_1 (k0 : Int32) : Int32 := (0 : Int32)
def Q6_0_1 (Z : State) (a1 : Addr) (a2 : Addr) (w : Addr) (kw : ClassId) (kn : ClassId) (k0 : Int32) (h0 : Heap) (n0 : Nat) (v : Option Value) (h : Heap) (L : List Loc) : Prop := v = some (.int (f6_0_1 k0)) ∧ Fr n0 L ∧ h = h0
set_option maxRecDepth 65536 in
set_option maxHeartbeats 40000000 in
theorem rm6_0_1 (l : Launch) (Z : State) (a0 : Array Value) (hw : ∀ d ∈ tables_1, d.before a0 Z = true) (ws : List Jvm.Cond) (a1 : Addr) (a2 : Addr) (w : Addr) (kw : ClassId) (kn : ClassId) (k0 : Int32) (h0 : Heap) (n0 : Nat) (Z0 : n0 ≤ h0.size) (Fl : Fld Z h0 a1 c_0 "licences" "[I" (.ref w)) (VL : Arv Z h0 w kw .int (0 : Int32) [] (.int (0 : Int32))) (VN : Arv Z h0 a2 kn .int (1 : Int32) [(.int k0)] (.int (0 : Int32))) :
    MetFree l y_4 (head1 (Jvm.Cond.code y_4 prog_150_method_2_code 7 (some .boolean) :: ws) ({ frames := 0, cells := 0, slots := 0, locals := 0 } : Room)) (fun a U => a = #[(.ref a1), (.ref a2)] ∧ Z.Warmed39 U.vm ∧ U.heap = h0) (fun _ _ _ _ _ => True) (fun _ U o U' => ∃ v L, o = .returned v ∧ Q6_0_1 Z a1 a2 w kw kn k0 h0 n0 v U'.heap L ∧ FrameEnd U o U' L ({ frames := 0, cells := 0, slots := 0, locals := 0 } : Room).cells ({ frames := 0, cells := 0, slots := 0, locals := 0 } : Room).slots) := by
  refine MetFree.of_bodySF (plainFor_of_name pn_6_0_1) hisR ?_
  intro p e s m args below meth c s₁ Bd hml0 hP hK
  obtain ⟨rfl, hZ, hh⟩ := hP
  have hx := Bd.exec
  have hby := Bd.bytes
  have hml : c.maxLocals = 7 := hml0
  have hown : s.vm.findClass "com/example/slackline/slackline/workload/Farm$Machine" = some m.cls := findClass_of_methodNamed Bd.named
  have hnm := (name_of_methodNamed Bd.named Bd.method).1
  have X0 : Stand p l e ({ frames := 0, cells := 0, slots := 0, locals := 0 } : Room) s m #[(.ref a1), (.ref a2)] below meth c s₁ [] 0 0 := Stand.of_body Bd
  have e0 : s₁.heap = h0 := by rw [← hh, Bd.state]; rfl
  have N0 := Fr.nil n0
  obtain ⟨F0, hF0⟩ : ∃ F : JFrame, F = entryFrame m #[(.ref a1), (.ref a2)] 7 := ⟨_, rfl⟩
  have pre0 : ∀ t, Steps p.tables e below (s₁.setTop F0) t → Steps p.tables e below (s₁.setTop (entryFrame m #[(.ref a1), (.ref a2)] 7)) t := fun t k => hF0 ▸ k
  have go0 : Go p e below s₁ F0 s₁ (mkF m 0 #[vr a1, vr a2, .unset, .unset, .unset, .unset, .unset] []) := fun t k => castTop (hF0.trans (ef_6_0_1 m a1 a2)) k
  have go1 : Go p e below s₁ F0 s₁ (mkF m 5 #[vr a1, vr a2, vi (0 : Int32), vr a2, .unset, .unset, .unset] [(.ref a2)]) := by
    intro t_ k_
    refine go0 t_ ?_
    refine o_iconst X0 hx (hb hby d6_0) (v := 0) rfl ?_
    refine o_istoreN X0 hx (hb hby d6_1) (L' := #[vr a1, vr a2, vi (0 : Int32), .unset, .unset, .unset, .unset]) rfl ?_
    refine o_aloadN X0 hx (hb hby d6_2) rfl rfl ?_
    refine o_astoreN X0 hx (hb hby d6_3) rfl (L' := #[vr a1, vr a2, vi (0 : Int32), vr a2, .unset, .unset, .unset]) rfl ?_
    refine o_aloadN X0 hx (hb hby d6_4) rfl rfl ?_
    exact k_
  obtain ⟨cl2, Ar2, -, Sz2, Nn2, -, -⟩ := id VN
  have go3 : Go p e below s₁ F0 s₁ (mkF m 21 #[vr a1, vr a2, vi (0 : Int32), vr a2, vi (1 : Int32), vi (0 : Int32), .unset] [(.int (0 : Int32)), (.ref a2)]) := by
    intro t_ k_
    refine go1 t_ ?_
    refine o_len X0 hx hZ e0 Ar2 Sz2 Nn2 (hb hby d6_5) ?_
    refine o_istore X0 hx (hb hby d6_6) (L' := #[vr a1, vr a2, vi (0 : Int32), vr a2, vi (1 : Int32), .unset, .unset]) rfl ?_
    refine o_iconst X0 hx (hb hby d6_8) (v := 0) rfl ?_
    refine o_istore X0 hx (hb hby d6_9) (L' := #[vr a1, vr a2, vi (0 : Int32), vr a2, vi (1 : Int32), vi (0 : Int32), .unset]) rfl ?_
    refine o_iload X0 hx (hb hby d6_11) rfl ?_
    refine o_iload X0 hx (hb hby d6_13) rfl ?_
    refine o_icmpNo X0 hx (hb hby d6_15) (tlt (by decide : (0 : Int32) < (1 : Int32))).2.1 ?_
    refine o_aloadN X0 hx (hb hby d6_18) rfl rfl ?_
    refine o_iload X0 hx (hb hby d6_19) rfl ?_
    exact k_
  obtain ⟨cl4, Ar4, -, Sz4, Nn4, Hs4, -⟩ := id VN
  have hin4 : ¬ ((0 : Int32) < 0 ∨ cl4.slots.size ≤ ((0 : Int32)).toNatClampNeg) := inb_of Sz4 ⟨by decide, by decide⟩
  have hat4 : cl4.slots[((0 : Int32)).toNatClampNeg]? = some (.int k0) := Hs4.at hin4 rfl
  have go5 : Go p e below s₁ F0 s₁ (mkF m 26 #[vr a1, vr a2, vi (0 : Int32), vr a2, vi (1 : Int32), vi (0 : Int32), vi k0] [(.ref a1), (.int (0 : Int32))]) := by
    intro t_ k_
    refine go3 t_ ?_
    refine o_iaload X0 hx hZ e0 Ar4 hin4 hat4 (hb hby d6_21) ?_
    refine o_istore X0 hx (hb hby d6_22) (L' := #[vr a1, vr a2, vi (0 : Int32), vr a2, vi (1 : Int32), vi (0 : Int32), vi k0]) rfl ?_
    refine o_iloadN X0 hx (hb hby d6_24) rfl ?_
    refine o_aloadN X0 hx (hb hby d6_25) rfl rfl ?_
    exact k_
  obtain ⟨T6, X6, e6, st6⟩ := getF X0 hx hZ hown (host := "") (Or.inl (own_w hw 26 rfl)) Via.refl e0 Fl (g := (mkF m 26 #[vr a1, vr a2, vi (0 : Int32), vr a2, vi (1 : Int32), vi (0 : Int32), vi k0] [(.ref a1), (.int (0 : Int32))])) rfl rfl (hb hby d6_26)
  have go7 : Go p e below s₁ F0 T6 (mkF m 29 #[vr a1, vr a2, vi (0 : Int32), vr a2, vi (1 : Int32), vi (0 : Int32), vi k0] [(.ref w), (.int (0 : Int32))]) := fun t_ k_ => go5 t_ (st6 t_ k_)
  obtain ⟨cl8, Ar8, -, Sz8, Nn8, -, -⟩ := id VL
  have go9 : Go p e below s₁ F0 T6 (mkF m 52 #[vr a1, vr a2, vi (0 : Int32), vr a2, vi (1 : Int32), vi (0 : Int32), vi k0] [(.ref a1), (.int (0 : Int32))]) := by
    intro t_ k_
    refine go7 t_ ?_
    refine o_len X6 hx hZ e6 Ar8 Sz8 Nn8 (hb hby d6_29) ?_
    refine o_icmpYes X6 hx (hb hby d6_30) (pc' := 50) rfl (by decide) (flt (by decide : ¬ ((0 : Int32) < (0 : Int32)))).2.1 ?_
    refine o_iloadN X6 hx (hb hby d6_50) rfl ?_
    refine o_aloadN X6 hx (hb hby d6_51) rfl rfl ?_
    exact k_
  obtain ⟨T10, X10, e10, st10⟩ := getF X6 hx hZ hown (host := "") (Or.inl (own_w hw 26 rfl)) Via.refl e6 Fl (g := (mkF m 52 #[vr a1, vr a2, vi (0 : Int32), vr a2, vi (1 : Int32), vi (0 : Int32), vi k0] [(.ref a1), (.int (0 : Int32))])) rfl rfl (hb hby d6_52)
  have go11 : Go p e below s₁ F0 T10 (mkF m 55 #[vr a1, vr a2, vi (0 : Int32), vr a2, vi (1 : Int32), vi (0 : Int32), vi k0] [(.ref w), (.int (0 : Int32))]) := fun t_ k_ => go9 t_ (st10 t_ k_)
  obtain ⟨cl12, Ar12, -, Sz12, Nn12, -, -⟩ := id VL
  have go13 : Go p e below s₁ F0 T10 (mkF m 71 #[vr a1, vr a2, vi (0 : Int32), vr a2, vi (1 : Int32), vi (0 : Int32), vi k0] [(.int (0 : Int32))]) := by
    intro t_ k_
    refine go11 t_ ?_
    refine o_len X10 hx hZ e10 Ar12 Sz12 Nn12 (hb hby d6_55) ?_
    refine o_icmpYes X10 hx (hb hby d6_56) (pc' := 70) rfl (by decide) (teq (by decide : (0 : Int32) = (0 : Int32))).1 ?_
    refine o_iconst X10 hx (hb hby d6_70) (v := 0) rfl ?_
    exact k_
  obtain ⟨fs, hr, hrun, hended, hW, hsame⟩ := X10.leave (v := some (.int (0 : Int32))) (fun h => by rw [Bd.returns] at h; cases h)
  refine ⟨_, _, pre0 _ (go13 _ ?_), hrun, hended, _, _, rfl, ?_, ⟨_, rfl⟩, hW, hsame.mono (by decide) (by decide)⟩
  · skip
    exact retN X10 hx (t := .boolean) Bd.returns (by simp) (hb hby d6_71) hr
  · show Q6_0_1 Z a1 a2 w kw kn k0 h0 n0 _ T10.heap _
    rw [e10]
    exact ⟨(congrArg (fun z => some (Value.int z)) (show (0 : Int32) = f6_0_1 k0 from by unfold f6_0_1; rfl)), N0, rfl⟩

theorem pn_6_0_2 : plainName "com/example/slackline/slackline/workload/Farm$Machine" = true := by first | (simp [plainName, overriddenIn]; done) | decide +kernel
theorem ef_6_0_2 (m : MethodId) (x0 : Addr) (x1 : Addr) : entryFrame m #[(.ref x0), (.ref x1)] 7 = mkF m 0 #[vr x0, vr x1, .unset, .unset, .unset, .unset, .unset] [] := by first | (simp [entryFrame, mkF, argsToLocals, Value.category]; done) | rfl
def f6_0_2 (k0 : Int32) (k1 : Int32) : Int32 := (0 : Int32)
def Q6_0_2 (Z : State) (a1 : Addr) (a2 : Addr) (w : Addr) (kw : ClassId) (kn : ClassId) (k0 : Int32) (k1 : Int32) (h0 : Heap) (n0 : Nat) (v : Option Value) (h : Heap) (L : List Loc) : Prop := v = some (.int (f6_0_2 k0 k1)) ∧ Fr n0 L ∧ h = h0
set_option maxRecDepth 65536 in
set_option maxHeartbeats 40000000 in
theorem rm6_0_2 (l : Launch) (Z : State) (a0 : Array Value) (hw : ∀ d ∈ tables_1, d.before a0 Z = true) (ws : List Jvm.Cond) (a1 : Addr) (a2 : Addr) (w : Addr) (kw : ClassId) (kn : ClassId) (k0 : Int32) (k1 : Int32) (h0 : Heap) (n0 : Nat) (Z0 : n0 ≤ h0.size) (Fl : Fld Z h0 a1 c_0 "licences" "[I" (.ref w)) (VL : Arv Z h0 w kw .int (0 : Int32) [] (.int (0 : Int32))) (VN : Arv Z h0 a2 kn .int (2 : Int32) [(.int k0), (.int k1)] (.int (0 : Int32))) (s0 : k0 < k1) :
    MetFree l y_4 (head1 (Jvm.Cond.code y_4 prog_150_method_2_code 7 (some .boolean) :: ws) ({ frames := 0, cells := 0, slots := 0, locals := 0 } : Room)) (fun a U => a = #[(.ref a1), (.ref a2)] ∧ Z.Warmed39 U.vm ∧ U.heap = h0) (fun _ _ _ _ _ => True) (fun _ U o U' => ∃ v L, o = .returned v ∧ Q6_0_2 Z a1 a2 w kw kn k0 k1 h0 n0 v U'.heap L ∧ FrameEnd U o U' L ({ frames := 0, cells := 0, slots := 0, locals := 0 } : Room).cells ({ frames := 0, cells := 0, slots := 0, locals := 0 } : Room).slots) := by
  refine MetFree.of_bodySF (plainFor_of_name pn_6_0_2) hisR ?_
  intro p e s m args below meth c s₁ Bd hml0 hP hK
  obtain ⟨rfl, hZ, hh⟩ := hP
  have hx := Bd.exec
  have hby := Bd.bytes
  have hml : c.maxLocals = 7 := hml0
  have hown : s.vm.findClass "com/example/slackline/slackline/workload/Farm$Machine" = some m.cls := findClass_of_methodNamed Bd.named
  have hnm := (name_of_methodNamed Bd.named Bd.method).1
  have X0 : Stand p l e ({ frames := 0, cells := 0, slots := 0, locals := 0 } : Room) s m #[(.ref a1), (.ref a2)] below meth c s₁ [] 0 0 := Stand.of_body Bd
  have e0 : s₁.heap = h0 := by rw [← hh, Bd.state]; rfl
  have N0 := Fr.nil n0
  obtain ⟨F0, hF0⟩ : ∃ F : JFrame, F = entryFrame m #[(.ref a1), (.ref a2)] 7 := ⟨_, rfl⟩
  have pre0 : ∀ t, Steps p.tables e below (s₁.setTop F0) t → Steps p.tables e below (s₁.setTop (entryFrame m #[(.ref a1), (.ref a2)] 7)) t := fun t k => hF0 ▸ k
  have go0 : Go p e below s₁ F0 s₁ (mkF m 0 #[vr a1, vr a2, .unset, .unset, .unset, .unset, .unset] []) := fun t k => castTop (hF0.trans (ef_6_0_2 m a1 a2)) k
  have go1 : Go p e below s₁ F0 s₁ (mkF m 5 #[vr a1, vr a2, vi (0 : Int32), vr a2, .unset, .unset, .unset] [(.ref a2)]) := by
    intro t_ k_
    refine go0 t_ ?_
    refine o_iconst X0 hx (hb hby d6_0) (v := 0) rfl ?_
    refine o_istoreN X0 hx (hb hby d6_1) (L' := #[vr a1, vr a2, vi (0 : Int32), .unset, .unset, .unset, .unset]) rfl ?_
    refine o_aloadN X0 hx (hb hby d6_2) rfl rfl ?_
    refine o_astoreN X0 hx (hb hby d6_3) rfl (L' := #[vr a1, vr a2, vi (0 : Int32), vr a2, .unset, .unset, .unset]) rfl ?_
    refine o_aloadN X0 hx (hb hby d6_4) rfl rfl ?_
    exact k_
  obtain ⟨cl2, Ar2, -, Sz2, Nn2, -, -⟩ := id VN
  have go3 : Go p e below s₁ F0 s₁ (mkF m 21 #[vr a1, vr a2, vi (0 : Int32), vr a2, vi (2 : Int32), vi (0 : Int32), .unset] [(.int (0 : Int32)), (.ref a2)]) := by
    intro t_ k_
    refine go1 t_ ?_
    refine o_len X0 hx hZ e0 Ar2 Sz2 Nn2 (hb hby d6_5) ?_
    refine o_istore X0 hx (hb hby d6_6) (L' := #[vr a1, vr a2, vi (0 : Int32), vr a2, vi (2 : Int32), .unset, .unset]) rfl ?_
    refine o_iconst X0 hx (hb hby d6_8) (v := 0) rfl ?_
    refine o_istore X0 hx (hb hby d6_9) (L' := #[vr a1, vr a2, vi (0 : Int32), vr a2, vi (2 : Int32), vi (0 : Int32), .unset]) rfl ?_
    refine o_iload X0 hx (hb hby d6_11) rfl ?_
    refine o_iload X0 hx (hb hby d6_13) rfl ?_
    refine o_icmpNo X0 hx (hb hby d6_15) (tlt (by decide : (0 : Int32) < (2 : Int32))).2.1 ?_
    refine o_aloadN X0 hx (hb hby d6_18) rfl rfl ?_
    refine o_iload X0 hx (hb hby d6_19) rfl ?_
    exact k_
  obtain ⟨cl4, Ar4, -, Sz4, Nn4, Hs4, -⟩ := id VN
  have hin4 : ¬ ((0 : Int32) < 0 ∨ cl4.slots.size ≤ ((0 : Int32)).toNatClampNeg) := inb_of Sz4 ⟨by decide, by decide⟩
  have hat4 : cl4.slots[((0 : Int32)).toNatClampNeg]? = some (.int k0) := Hs4.at hin4 rfl
  have go5 : Go p e below s₁ F0 s₁ (mkF m 26 #[vr a1, vr a2, vi (0 : Int32), vr a2, vi (2 : Int32), vi (0 : Int32), vi k0] [(.ref a1), (.int (0 : Int32))]) := by
    intro t_ k_
    refine go3 t_ ?_
    refine o_iaload X0 hx hZ e0 Ar4 hin4 hat4 (hb hby d6_21) ?_
    refine o_istore X0 hx (hb hby d6_22) (L' := #[vr a1, vr a2, vi (0 : Int32), vr a2, vi (2 : Int32), vi (0 : Int32), vi k0]) rfl ?_
    refine o_iloadN X0 hx (hb hby d6_24) rfl ?_
    refine o_aloadN X0 hx (hb hby d6_25) rfl rfl ?_
    exact k_
  obtain ⟨T6, X6, e6, st6⟩ := getF X0 hx hZ hown (host := "") (Or.inl (own_w hw 26 rfl)) Via.refl e0 Fl (g := (mkF m 26 #[vr a1, vr a2, vi (0 : Int32), vr a2, vi (2 : Int32), vi (0 : Int32), vi k0] [(.ref a1), (.int (0 : Int32))])) rfl rfl (hb hby d6_26)
  have go7 : Go p e below s₁ F0 T6 (mkF m 29 #[vr a1, vr a2, vi (0 : Int32), vr a2, vi (2 : Int32), vi (0 : Int32), vi k0] [(.ref w), (.int (0 : Int32))]) := fun t_ k_ => go5 t_ (st6 t_ k_)
  obtain ⟨cl8, Ar8, -, Sz8, Nn8, -, -⟩ := id VL
  have go9 : Go p e below s₁ F0 T6 (mkF m 52 #[vr a1, vr a2, vi (0 : Int32), vr a2, vi (2 : Int32), vi (0 : Int32), vi k0] [(.ref a1), (.int (0 : Int32))]) := by
    intro t_ k_
    refine go7 t_ ?_
    refine o_len X6 hx hZ e6 Ar8 Sz8 Nn8 (hb hby d6_29) ?_
    refine o_icmpYes X6 hx (hb hby d6_30) (pc' := 50) rfl (by decide) (flt (by decide : ¬ ((0 : Int32) < (0 : Int32)))).2.1 ?_
    refine o_iloadN X6 hx (hb hby d6_50) rfl ?_
    refine o_aloadN X6 hx (hb hby d6_51) rfl rfl ?_
    exact k_
  obtain ⟨T10, X10, e10, st10⟩ := getF X6 hx hZ hown (host := "") (Or.inl (own_w hw 26 rfl)) Via.refl e6 Fl (g := (mkF m 52 #[vr a1, vr a2, vi (0 : Int32), vr a2, vi (2 : Int32), vi (0 : Int32), vi k0] [(.ref a1), (.int (0 : Int32))])) rfl rfl (hb hby d6_52)
  have go11 : Go p e below s₁ F0 T10 (mkF m 55 #[vr a1, vr a2, vi (0 : Int32), vr a2, vi (2 : Int32), vi (0 : Int32), vi k0] [(.ref w), (.int (0 : Int32))]) := fun t_ k_ => go9 t_ (st10 t_ k_)
  obtain ⟨cl12, Ar12, -, Sz12, Nn12, -, -⟩ := id VL
  have go13 : Go p e below s₁ F0 T10 (mkF m 71 #[vr a1, vr a2, vi (0 : Int32), vr a2, vi (2 : Int32), vi (0 : Int32), vi k0] [(.int (0 : Int32))]) := by
    intro t_ k_
    refine go11 t_ ?_
    refine o_len X10 hx hZ e10 Ar12 Sz12 Nn12 (hb hby d6_55) ?_
    refine o_icmpYes X10 hx (hb hby d6_56) (pc' := 70) rfl (by decide) (teq (by decide : (0 : Int32) = (0 : Int32))).1 ?_
    refine o_iconst X10 hx (hb hby d6_70) (v := 0) rfl ?_
    exact k_
  obtain ⟨fs, hr, hrun, hended, hW, hsame⟩ := X10.leave (v := some (.int (0 : Int32))) (fun h => by rw [Bd.returns] at h; cases h)
  refine ⟨_, _, pre0 _ (go13 _ ?_), hrun, hended, _, _, rfl, ?_, ⟨_, rfl⟩, hW, hsame.mono (by decide) (by decide)⟩
  · skip
    exact retN X10 hx (t := .boolean) Bd.returns (by simp) (hb hby d6_71) hr
  · show Q6_0_2 Z a1 a2 w kw kn k0 k1 h0 n0 _ T10.heap _
    rw [e10]
    exact ⟨(congrArg (fun z => some (Value.int z)) (show (0 : Int32) = f6_0_2 k0 k1 from by unfold f6_0_2; rfl)), N0, rfl⟩

theorem pn_6_0_3 : plainName "com/example/slackline/slackline/workload/Farm$Machine" = true := by first | (simp [plainName, overriddenIn]; done) | decide +kernel
theorem ef_6_0_3 (m : MethodId) (x0 : Addr) (x1 : Addr) : entryFrame m #[(.ref x0), (.ref x1)] 7 = mkF m 0 #[vr x0, vr x1, .unset, .unset, .unset, .unset, .unset] [] := by first | (simp [entryFrame, mkF, argsToLocals, Value.category]; done) | rfl
def f6_0_3 (k0 : Int32) (k1 : Int32) (k2 : Int32) : Int32 := (0 : Int32)
def Q6_0_3 (Z : State) (a1 : Addr) (a2 : Addr) (w : Addr) (kw : ClassId) (kn : ClassId) (k0 : Int32) (k1 : Int32) (k2 : Int32) (h0 : Heap) (n0 : Nat) (v : Option Value) (h : Heap) (L : List Loc) : Prop := v = some (.int (f6_0_3 k0 k1 k2)) ∧ Fr n0 L ∧ h = h0
set_option maxRecDepth 65536 in
set_option maxHeartbeats 40000000 in
theorem rm6_0_3 (l : Launch) (Z : State) (a0 : Array Value) (hw : ∀ d ∈ tables_1, d.before a0 Z = true) (ws : List Jvm.Cond) (a1 : Addr) (a2 : Addr) (w : Addr) (kw : ClassId) (kn : ClassId) (k0 : Int32) (k1 : Int32) (k2 : Int32) (h0 : Heap) (n0 : Nat) (Z0 : n0 ≤ h0.size) (Fl : Fld Z h0 a1 c_0 "licences" "[I" (.ref w)) (VL : Arv Z h0 w kw .int (0 : Int32) [] (.int (0 : Int32))) (VN : Arv Z h0 a2 kn .int (3 : Int32) [(.int k0), (.int k1), (.int k2)] (.int (0 : Int32))) (s0 : k0 < k1) (s1 : k1 < k2) :
    MetFree l y_4 (head1 (Jvm.Cond.code y_4 prog_150_method_2_code 7 (some .boolean) :: ws) ({ frames := 0, cells := 0, slots := 0, locals := 0 } : Room)) (fun a U => a = #[(.ref a1), (.ref a2)] ∧ Z.Warmed39 U.vm ∧ U.heap = h0) (fun _ _ _ _ _ => True) (fun _ U o U' => ∃ v L, o = .returned v ∧ Q6_0_3 Z a1 a2 w kw kn k0 k1 k2 h0 n0 v U'.heap L ∧ FrameEnd U o U' L ({ frames := 0, cells := 0, slots := 0, locals := 0 } : Room).cells ({ frames := 0, cells := 0, slots := 0, locals := 0 } : Room).slots) := by
  refine MetFree.of_bodySF (plainFor_of_name pn_6_0_3) hisR ?_
  intro p e s m args below meth c s₁ Bd hml0 hP hK
  obtain ⟨rfl, hZ, hh⟩ := hP
  have hx := Bd.exec
  have hby := Bd.bytes
  have hml : c.maxLocals = 7 := hml0
  have hown : s.vm.findClass "com/example/slackline/slackline/workload/Farm$Machine" = some m.cls := findClass_of_methodNamed Bd.named
  have hnm := (name_of_methodNamed Bd.named Bd.method).1
  have X0 : Stand p l e ({ frames := 0, cells := 0, slots := 0, locals := 0 } : Room) s m #[(.ref a1), (.ref a2)] below meth c s₁ [] 0 0 := Stand.of_body Bd
  have e0 : s₁.heap = h0 := by rw [← hh, Bd.state]; rfl
  have N0 := Fr.nil n0
  obtain ⟨F0, hF0⟩ : ∃ F : JFrame, F = entryFrame m #[(.ref a1), (.ref a2)] 7 := ⟨_, rfl⟩
  have pre0 : ∀ t, Steps p.tables e below (s₁.setTop F0) t → Steps p.tables e below (s₁.setTop (entryFrame m #[(.ref a1), (.ref a2)] 7)) t := fun t k => hF0 ▸ k
  have go0 : Go p e below s₁ F0 s₁ (mkF m 0 #[vr a1, vr a2, .unset, .unset, .unset, .unset, .unset] []) := fun t k => castTop (hF0.trans (ef_6_0_3 m a1 a2)) k
  have go1 : Go p e below s₁ F0 s₁ (mkF m 5 #[vr a1, vr a2, vi (0 : Int32), vr a2, .unset, .unset, .unset] [(.ref a2)]) := by
    intro t_ k_
    refine go0 t_ ?_
    refine o_iconst X0 hx (hb hby d6_0) (v := 0) rfl ?_
    refine o_istoreN X0 hx (hb hby d6_1) (L' := #[vr a1, vr a2, vi (0 : Int32), .unset, .unset, .unset, .unset]) rfl ?_
    refine o_aloadN X0 hx (hb hby d6_2) rfl rfl ?_
    refine o_astoreN X0 hx (hb hby d6_3) rfl (L' := #[vr a1, vr a2, vi (0 : Int32), vr a2, .unset, .unset, .unset]) rfl ?_
    refine o_aloadN X0 hx (hb hby d6_4) rfl rfl ?_
    exact k_
  obtain ⟨cl2, Ar2, -, Sz2, Nn2, -, -⟩ := id VN
  have go3 : Go p e below s₁ F0 s₁ (mkF m 21 #[vr a1, vr a2, vi (0 : Int32), vr a2, vi (3 : Int32), vi (0 : Int32), .unset] [(.int (0 : Int32)), (.ref a2)]) := by
    intro t_ k_
    refine go1 t_ ?_
    refine o_len X0 hx hZ e0 Ar2 Sz2 Nn2 (hb hby d6_5) ?_
    refine o_istore X0 hx (hb hby d6_6) (L' := #[vr a1, vr a2, vi (0 : Int32), vr a2, vi (3 : Int32), .unset, .unset]) rfl ?_
    refine o_iconst X0 hx (hb hby d6_8) (v := 0) rfl ?_
    refine o_istore X0 hx (hb hby d6_9) (L' := #[vr a1, vr a2, vi (0 : Int32), vr a2, vi (3 : Int32), vi (0 : Int32), .unset]) rfl ?_
    refine o_iload X0 hx (hb hby d6_11) rfl ?_
    refine o_iload X0 hx (hb hby d6_13) rfl ?_
    refine o_icmpNo X0 hx (hb hby d6_15) (tlt (by decide : (0 : Int32) < (3 : Int32))).2.1 ?_
    refine o_aloadN X0 hx (hb hby d6_18) rfl rfl ?_
    refine o_iload X0 hx (hb hby d6_19) rfl ?_
    exact k_
  obtain ⟨cl4, Ar4, -, Sz4, Nn4, Hs4, -⟩ := id VN
  have hin4 : ¬ ((0 : Int32) < 0 ∨ cl4.slots.size ≤ ((0 : Int32)).toNatClampNeg) := inb_of Sz4 ⟨by decide, by decide⟩
  have hat4 : cl4.slots[((0 : Int32)).toNatClampNeg]? = some (.int k0) := Hs4.at hin4 rfl
  have go5 : Go p e below s₁ F0 s₁ (mkF m 26 #[vr a1, vr a2, vi (0 : Int32), vr a2, vi (3 : Int32), vi (0 : Int32), vi k0] [(.ref a1), (.int (0 : Int32))]) := by
    intro t_ k_
    refine go3 t_ ?_
    refine o_iaload X0 hx hZ e0 Ar4 hin4 hat4 (hb hby d6_21) ?_
    refine o_istore X0 hx (hb hby d6_22) (L' := #[vr a1, vr a2, vi (0 : Int32), vr a2, vi (3 : Int32), vi (0 : Int32), vi k0]) rfl ?_
    refine o_iloadN X0 hx (hb hby d6_24) rfl ?_
    refine o_aloadN X0 hx (hb hby d6_25) rfl rfl ?_
    exact k_
  obtain ⟨T6, X6, e6, st6⟩ := getF X0 hx hZ hown (host := "") (Or.inl (own_w hw 26 rfl)) Via.refl e0 Fl (g := (mkF m 26 #[vr a1, vr a2, vi (0 : Int32), vr a2, vi (3 : Int32), vi (0 : Int32), vi k0] [(.ref a1), (.int (0 : Int32))])) rfl rfl (hb hby d6_26)
  have go7 : Go p e below s₁ F0 T6 (mkF m 29 #[vr a1, vr a2, vi (0 : Int32), vr a2, vi (3 : Int32), vi (0 : Int32), vi k0] [(.ref w), (.int (0 : Int32))]) := fun t_ k_ => go5 t_ (st6 t_ k_)
  obtain ⟨cl8, Ar8, -, Sz8, Nn8, -, -⟩ := id VL
  have go9 : Go p e below s₁ F0 T6 (mkF m 52 #[vr a1, vr a2, vi (0 : Int32), vr a2, vi (3 : Int32), vi (0 : Int32), vi k0] [(.ref a1), (.int (0 : Int32))]) := by
    intro t_ k_
    refine go7 t_ ?_
    refine o_len X6 hx hZ e6 Ar8 Sz8 Nn8 (hb hby d6_29) ?_
    refine o_icmpYes X6 hx (hb hby d6_30) (pc' := 50) rfl (by decide) (flt (by decide : ¬ ((0 : Int32) < (0 : Int32)))).2.1 ?_
    refine o_iloadN X6 hx (hb hby d6_50) rfl ?_
    refine o_aloadN X6 hx (hb hby d6_51) rfl rfl ?_
    exact k_
  obtain ⟨T10, X10, e10, st10⟩ := getF X6 hx hZ hown (host := "") (Or.inl (own_w hw 26 rfl)) Via.refl e6 Fl (g := (mkF m 52 #[vr a1, vr a2, vi (0 : Int32), vr a2, vi (3 : Int32), vi (0 : Int32), vi k0] [(.ref a1), (.int (0 : Int32))])) rfl rfl (hb hby d6_52)
  have go11 : Go p e below s₁ F0 T10 (mkF m 55 #[vr a1, vr a2, vi (0 : Int32), vr a2, vi (3 : Int32), vi (0 : Int32), vi k0] [(.ref w), (.int (0 : Int32))]) := fun t_ k_ => go9 t_ (st10 t_ k_)
  obtain ⟨cl12, Ar12, -, Sz12, Nn12, -, -⟩ := id VL
  have go13 : Go p e below s₁ F0 T10 (mkF m 71 #[vr a1, vr a2, vi (0 : Int32), vr a2, vi (3 : Int32), vi (0 : Int32), vi k0] [(.int (0 : Int32))]) := by
    intro t_ k_
    refine go11 t_ ?_
    refine o_len X10 hx hZ e10 Ar12 Sz12 Nn12 (hb hby d6_55) ?_
    refine o_icmpYes X10 hx (hb hby d6_56) (pc' := 70) rfl (by decide) (teq (by decide : (0 : Int32) = (0 : Int32))).1 ?_
    refine o_iconst X10 hx (hb hby d6_70) (v := 0) rfl ?_
    exact k_
  obtain ⟨fs, hr, hrun, hended, hW, hsame⟩ := X10.leave (v := some (.int (0 : Int32))) (fun h => by rw [Bd.returns] at h; cases h)
  refine ⟨_, _, pre0 _ (go13 _ ?_), hrun, hended, _, _, rfl, ?_, ⟨_, rfl⟩, hW, hsame.mono (by decide) (by decide)⟩
  · skip
    exact retN X10 hx (t := .boolean) Bd.returns (by simp) (hb hby d6_71) hr
  · show Q6_0_3 Z a1 a2 w kw kn k0 k1 k2 h0 n0 _ T10.heap _
    rw [e10]
    exact ⟨(congrArg (fun z => some (Value.int z)) (show (0 : Int32) = f6_0_3 k0 k1 k2 from by unfold f6_0_3; rfl)), N0, rfl⟩

theorem pn_6_1_0 : plainName "com/example/slackline/slackline/workload/Farm$Machine" = true := by first | (simp [plainName, overriddenIn]; done) | decide +kernel
theorem ef_6_1_0 (m : MethodId) (x0 : Addr) (x1 : Addr) : entryFrame m #[(.ref x0), (.ref x1)] 7 = mkF m 0 #[vr x0, vr x1, .unset, .unset, .unset, .unset, .unset] [] := by first | (simp [entryFrame, mkF, argsToLocals, Value.category]; done) | rfl
def f6_1_0 (l0 : Int32) : Int32 := (1 : Int32)
def Q6_1_0 (Z : State) (a1 : Addr) (a2 : Addr) (w : Addr) (kw : ClassId) (kn : ClassId) (l0 : Int32) (h0 : Heap) (n0 : Nat) (v : Option Value) (h : Heap) (L : List Loc) : Prop := v = some (.int (f6_1_0 l0)) ∧ Fr n0 L ∧ h = h0
set_option maxRecDepth 65536 in
set_option maxHeartbeats 40000000 in
theorem rm6_1_0 (l : Launch) (Z : State) (a0 : Array Value) (hw : ∀ d ∈ tables_1, d.before a0 Z = true) (ws : List Jvm.Cond) (a1 : Addr) (a2 : Addr) (w : Addr) (kw : ClassId) (kn : ClassId) (l0 : Int32) (h0 : Heap) (n0 : Nat) (Z0 : n0 ≤ h0.size) (Fl : Fld Z h0 a1 c_0 "licences" "[I" (.ref w)) (VL : Arv Z h0 w kw .int (1 : Int32) [(.int l0)] (.int (0 : Int32))) (VN : Arv Z h0 a2 kn .int (0 : Int32) [] (.int (0 : Int32))) :
    MetFree l y_4 (head1 (Jvm.Cond.code y_4 prog_150_method_2_code 7 (some .boolean) :: ws) ({ frames := 0, cells := 0, slots := 0, locals := 0 } : Room)) (fun a U => a = #[(.ref a1), (.ref a2)] ∧ Z.Warmed39 U.vm ∧ U.heap = h0) (fun _ _ _ _ _ => True) (fun _ U o U' => ∃ v L, o = .returned v ∧ Q6_1_0 Z a1 a2 w kw kn l0 h0 n0 v U'.heap L ∧ FrameEnd U o U' L ({ frames := 0, cells := 0, slots := 0, locals := 0 } : Room).cells ({ frames := 0, cells := 0, slots := 0, locals := 0 } : Room).slots) := by
  refine MetFree.of_bodySF (plainFor_of_name pn_6_1_0) hisR ?_
  intro p e s m args below meth c s₁ Bd hml0 hP hK
  obtain ⟨rfl, hZ, hh⟩ := hP
  have hx := Bd.exec
  have hby := Bd.bytes
  have hml : c.maxLocals = 7 := hml0
  have hown : s.vm.findClass "com/example/slackline/slackline/workload/Farm$Machine" = some m.cls := findClass_of_methodNamed Bd.named
  have hnm := (name_of_methodNamed Bd.named Bd.method).1
  have X0 : Stand p l e ({ frames := 0, cells := 0, slots := 0, locals := 0 } : Room) s m #[(.ref a1), (.ref a2)] below meth c s₁ [] 0 0 := Stand.of_body Bd
  have e0 : s₁.heap = h0 := by rw [← hh, Bd.state]; rfl
  have N0 := Fr.nil n0
  obtain ⟨F0, hF0⟩ : ∃ F : JFrame, F = entryFrame m #[(.ref a1), (.ref a2)] 7 := ⟨_, rfl⟩
  have pre0 : ∀ t, Steps p.tables e below (s₁.setTop F0) t → Steps p.tables e below (s₁.setTop (entryFrame m #[(.ref a1), (.ref a2)] 7)) t := fun t k => hF0 ▸ k
  have go0 : Go p e below s₁ F0 s₁ (mkF m 0 #[vr a1, vr a2, .unset, .unset, .unset, .unset, .unset] []) := fun t k => castTop (hF0.trans (ef_6_1_0 m a1 a2)) k
  have go1 : Go p e below s₁ F0 s₁ (mkF m 5 #[vr a1, vr a2, vi (0 : Int32), vr a2, .unset, .unset, .unset] [(.ref a2)]) := by
    intro t_ k_
    refine go0 t_ ?_
    refine o_iconst X0 hx (hb hby d6_0) (v := 0) rfl ?_
    refine o_istoreN X0 hx (hb hby d6_1) (L' := #[vr a1, vr a2, vi (0 : Int32), .unset, .unset, .unset, .unset]) rfl ?_
    refine o_aloadN X0 hx (hb hby d6_2) rfl rfl ?_
    refine o_astoreN X0 hx (hb hby d6_3) rfl (L' := #[vr a1, vr a2, vi (0 : Int32), vr a2, .unset, .unset, .unset]) rfl ?_
    refine o_aloadN X0 hx (hb hby d6_4) rfl rfl ?_
    exact k_
  obtain ⟨cl2, Ar2, -, Sz2, Nn2, -, -⟩ := id VN
  have go3 : Go p e below s₁ F0 s₁ (mkF m 79 #[vr a1, vr a2, vi (0 : Int32), vr a2, vi (0 : Int32), vi (0 : Int32), .unset] [(.int (1 : Int32))]) := by
    intro t_ k_
    refine go1 t_ ?_
    refine o_len X0 hx hZ e0 Ar2 Sz2 Nn2 (hb hby d6_5) ?_
    refine o_istore X0 hx (hb hby d6_6) (L' := #[vr a1, vr a2, vi (0 : Int32), vr a2, vi (0 : Int32), .unset, .unset]) rfl ?_
    refine o_iconst X0 hx (hb hby d6_8) (v := 0) rfl ?_
    refine o_istore X0 hx (hb hby d6_9) (L' := #[vr a1, vr a2, vi (0 : Int32), vr a2, vi (0 : Int32), vi (0 : Int32), .unset]) rfl ?_
    refine o_iload X0 hx (hb hby d6_11) rfl ?_
    refine o_iload X0 hx (hb hby d6_13) rfl ?_
    refine o_icmpYes X0 hx (hb hby d6_15) (pc' := 78) rfl (by decide) (flt (by decide : ¬ ((0 : Int32) < (0 : Int32)))).2.1 ?_
    refine o_iconst X0 hx (hb hby d6_78) (v := 1) rfl ?_
    exact k_
  obtain ⟨fs, hr, hrun, hended, hW, hsame⟩ := X0.leave (v := some (.int (1 : Int32))) (fun h => by rw [Bd.returns] at h; cases h)
  refine ⟨_, _, pre0 _ (go3 _ ?_), hrun, hended, _, _, rfl, ?_, ⟨_, rfl⟩, hW, hsame.mono (by decide) (by decide)⟩
  · skip
    exact retN X0 hx (t := .boolean) Bd.returns (by simp) (hb hby d6_79) hr
  · show Q6_1_0 Z a1 a2 w kw kn l0 h0 n0 _ s₁.heap _
    rw [e0]
    exact ⟨(congrArg (fun z => some (Value.int z)) (show (1 : Int32) = f6_1_0 l0 from by unfold f6_1_0; rfl)), N0, rfl⟩

theorem d6_33 : decode prog_150_method_2_code 33 = .ok (.aload_n 0, 1) := by decide +kernel
theorem d6_34 : decode prog_150_method_2_code 34 = .ok (.getfield 20, 3) := by decide +kernel
theorem d6_37 : decode prog_150_method_2_code 37 = .ok (.iload_n 2, 1) := by decide +kernel
theorem d6_38 : decode prog_150_method_2_code 38 = .ok (.iaload, 1) := by decide +kernel
theorem d6_39 : decode prog_150_method_2_code 39 = .ok (.iload 6, 2) := by decide +kernel
theorem d6_41 : decode prog_150_method_2_code 41 = .ok (.if_icmp .ge 9, 3) := by decide +kernel
theorem d6_44 : decode prog_150_method_2_code 44 = .ok (.iinc 2 1, 3) := by decide +kernel
theorem d6_47 : decode prog_150_method_2_code 47 = .ok (.goto (-23), 3) := by decide +kernel
theorem d6_59 : decode prog_150_method_2_code 59 = .ok (.aload_n 0, 1) := by decide +kernel
theorem d6_60 : decode prog_150_method_2_code 60 = .ok (.getfield 20, 3) := by decide +kernel
theorem d6_63 : decode prog_150_method_2_code 63 = .ok (.iload_n 2, 1) := by decide +kernel
theorem d6_64 : decode prog_150_method_2_code 64 = .ok (.iaload, 1) := by decide +kernel
theorem d6_65 : decode prog_150_method_2_code 65 = .ok (.iload 6, 2) := by decide +kernel
theorem d6_67 : decode prog_150_method_2_code 67 = .ok (.if_icmp .eq 5, 3) := by decide +kernel
theorem d6_72 : decode prog_150_method_2_code 72 = .ok (.iinc 5 1, 3) := by decide +kernel
theorem d6_75 : decode prog_150_method_2_code 75 = .ok (.goto (-64), 3) := by decide +kernel
theorem pn_6_1_1 : plainName "com/example/slackline/slackline/workload/Farm$Machine" = true := by first | (simp [plainName, overriddenIn]; done) | decide +kernel
theorem ef_6_1_1 (m : MethodId) (x0 : Addr) (x1 : Addr) : entryFrame m #[(.ref x0), (.ref x1)] 7 = mkF m 0 #[vr x0, vr x1, .unset, .unset, .unset, .unset, .unset] [] := by first | (simp [entryFrame, mkF, argsToLocals, Value.category]; done) | rfl
def f6_1_1 (l0 : Int32) (k0 : Int32) : Int32 := (if l0 < k0 then (0 : Int32) else (if l0 = k0 then (1 : Int32) else (0 : Int32)))
def Q6_1_1 (Z : State) (a1 : Addr) (a2 : Addr) (w : Addr) (kw : ClassId) (kn : ClassId) (l0 : Int32) (k0 : Int32) (h0 : Heap) (n0 : Nat) (v : Option Value) (h : Heap) (L : List Loc) : Prop := v = some (.int (f6_1_1 l0 k0)) ∧ Fr n0 L ∧ h = h0
set_option maxRecDepth 65536 in
set_option maxHeartbeats 40000000 in
theorem rm6_1_1 (l : Launch) (Z : State) (a0 : Array Value) (hw : ∀ d ∈ tables_1, d.before a0 Z = true) (ws : List Jvm.Cond) (a1 : Addr) (a2 : Addr) (w : Addr) (kw : ClassId) (kn : ClassId) (l0 : Int32) (k0 : Int32) (h0 : Heap) (n0 : Nat) (Z0 : n0 ≤ h0.size) (Fl : Fld Z h0 a1 c_0 "licences" "[I" (.ref w)) (VL : Arv Z h0 w kw .int (1 : Int32) [(.int l0)] (.int (0 : Int32))) (VN : Arv Z h0 a2 kn .int (1 : Int32) [(.int k0)] (.int (0 : Int32))) :
    MetFree l y_4 (head1 (Jvm.Cond.code y_4 prog_150_method_2_code 7 (some .boolean) :: ws) ({ frames := 0, cells := 0, slots := 0, locals := 0 } : Room)) (fun a U => a = #[(.ref a1), (.ref a2)] ∧ Z.Warmed39 U.vm ∧ U.heap = h0) (fun _ _ _ _ _ => True) (fun _ U o U' => ∃ v L, o = .returned v ∧ Q6_1_1 Z a1 a2 w kw kn l0 k0 h0 n0 v U'.heap L ∧ FrameEnd U o U' L ({ frames := 0, cells := 0, slots := 0, locals := 0 } : Room).cells ({ frames := 0, cells := 0, slots := 0, locals := 0 } : Room).slots) := by
  refine MetFree.of_bodySF (plainFor_of_name pn_6_1_1) hisR ?_
  intro p e s m args below meth c s₁ Bd hml0 hP hK
  obtain ⟨rfl, hZ, hh⟩ := hP
  have hx := Bd.exec
  have hby := Bd.bytes
  have hml : c.maxLocals = 7 := hml0
  have hown : s.vm.findClass "com/example/slackline/slackline/workload/Farm$Machine" = some m.cls := findClass_of_methodNamed Bd.named
  have hnm := (name_of_methodNamed Bd.named Bd.method).1
  have X0 : Stand p l e ({ frames := 0, cells := 0, slots := 0, locals := 0 } : Room) s m #[(.ref a1), (.ref a2)] below meth c s₁ [] 0 0 := Stand.of_body Bd
  have e0 : s₁.heap = h0 := by rw [← hh, Bd.state]; rfl
  have N0 := Fr.nil n0
  obtain ⟨F0, hF0⟩ : ∃ F : JFrame, F = entryFrame m #[(.ref a1), (.ref a2)] 7 := ⟨_, rfl⟩
  have pre0 : ∀ t, Steps p.tables e below (s₁.setTop F0) t → Steps p.tables e below (s₁.setTop (entryFrame m #[(.ref a1), (.ref a2)] 7)) t := fun t k => hF0 ▸ k
  have go0 : Go p e below s₁ F0 s₁ (mkF m 0 #[vr a1, vr a2, .unset, .unset, .unset, .unset, .unset] []) := fun t k => castTop (hF0.trans (ef_6_1_1 m a1 a2)) k
  have go1 : Go p e below s₁ F0 s₁ (mkF m 5 #[vr a1, vr a2, vi (0 : Int32), vr a2, .unset, .unset, .unset] [(.ref a2)]) := by
    intro t_ k_
    refine go0 t_ ?_
    refine o_iconst X0 hx (hb hby d6_0) (v := 0) rfl ?_
    refine o_istoreN X0 hx (hb hby d6_1) (L' := #[vr a1, vr a2, vi (0 : Int32), .unset, .unset, .unset, .unset]) rfl ?_
    refine o_aloadN X0 hx (hb hby d6_2) rfl rfl ?_
    refine o_astoreN X0 hx (hb hby d6_3) rfl (L' := #[vr a1, vr a2, vi (0 : Int32), vr a2, .unset, .unset, .unset]) rfl ?_
    refine o_aloadN X0 hx (hb hby d6_4) rfl rfl ?_
    exact k_
  obtain ⟨cl2, Ar2, -, Sz2, Nn2, -, -⟩ := id VN
  have go3 : Go p e below s₁ F0 s₁ (mkF m 21 #[vr a1, vr a2, vi (0 : Int32), vr a2, vi (1 : Int32), vi (0 : Int32), .unset] [(.int (0 : Int32)), (.ref a2)]) := by
    intro t_ k_
    refine go1 t_ ?_
    refine o_len X0 hx hZ e0 Ar2 Sz2 Nn2 (hb hby d6_5) ?_
    refine o_istore X0 hx (hb hby d6_6) (L' := #[vr a1, vr a2, vi (0 : Int32), vr a2, vi (1 : Int32), .unset, .unset]) rfl ?_
    refine o_iconst X0 hx (hb hby d6_8) (v := 0) rfl ?_
    refine o_istore X0 hx (hb hby d6_9) (L' := #[vr a1, vr a2, vi (0 : Int32), vr a2, vi (1 : Int32), vi (0 : Int32), .unset]) rfl ?_
    refine o_iload X0 hx (hb hby d6_11) rfl ?_
    refine o_iload X0 hx (hb hby d6_13) rfl ?_
    refine o_icmpNo X0 hx (hb hby d6_15) (tlt (by decide : (0 : Int32) < (1 : Int32))).2.1 ?_
    refine o_aloadN X0 hx (hb hby d6_18) rfl rfl ?_
    refine o_iload X0 hx (hb hby d6_19) rfl ?_
    exact k_
  obtain ⟨cl4, Ar4, -, Sz4, Nn4, Hs4, -⟩ := id VN
  have hin4 : ¬ ((0 : Int32) < 0 ∨ cl4.slots.size ≤ ((0 : Int32)).toNatClampNeg) := inb_of Sz4 ⟨by decide, by decide⟩
  have hat4 : cl4.slots[((0 : Int32)).toNatClampNeg]? = some (.int k0) := Hs4.at hin4 rfl
  have go5 : Go p e below s₁ F0 s₁ (mkF m 26 #[vr a1, vr a2, vi (0 : Int32), vr a2, vi (1 : Int32), vi (0 : Int32), vi k0] [(.ref a1), (.int (0 : Int32))]) := by
    intro t_ k_
    refine go3 t_ ?_
    refine o_iaload X0 hx hZ e0 Ar4 hin4 hat4 (hb hby d6_21) ?_
    refine o_istore X0 hx (hb hby d6_22) (L' := #[vr a1, vr a2, vi (0 : Int32), vr a2, vi (1 : Int32), vi (0 : Int32), vi k0]) rfl ?_
    refine o_iloadN X0 hx (hb hby d6_24) rfl ?_
    refine o_aloadN X0 hx (hb hby d6_25) rfl rfl ?_
    exact k_
  obtain ⟨T6, X6, e6, st6⟩ := getF X0 hx hZ hown (host := "") (Or.inl (own_w hw 26 rfl)) Via.refl e0 Fl (g := (mkF m 26 #[vr a1, vr a2, vi (0 : Int32), vr a2, vi (1 : Int32), vi (0 : Int32), vi k0] [(.ref a1), (.int (0 : Int32))])) rfl rfl (hb hby d6_26)
  have go7 : Go p e below s₁ F0 T6 (mkF m 29 #[vr a1, vr a2, vi (0 : Int32), vr a2, vi (1 : Int32), vi (0 : Int32), vi k0] [(.ref w), (.int (0 : Int32))]) := fun t_ k_ => go5 t_ (st6 t_ k_)
  obtain ⟨cl8, Ar8, -, Sz8, Nn8, -, -⟩ := id VL
  have go9 : Go p e below s₁ F0 T6 (mkF m 34 #[vr a1, vr a2, vi (0 : Int32), vr a2, vi (1 : Int32), vi (0 : Int32), vi k0] [(.ref a1)]) := by
    intro t_ k_
    refine go7 t_ ?_
    refine o_len X6 hx hZ e6 Ar8 Sz8 Nn8 (hb hby d6_29) ?_
    refine o_icmpNo X6 hx (hb hby d6_30) (tlt (by decide : (0 : Int32) < (1 : Int32))).2.1 ?_
    refine o_aloadN X6 hx (hb hby d6_33) rfl rfl ?_
    exact k_
  obtain ⟨T10, X10, e10, st10⟩ := getF X6 hx hZ hown (host := "") (Or.inl (own_w hw 26 rfl)) Via.refl e6 Fl (g := (mkF m 34 #[vr a1, vr a2, vi (0 : Int32), vr a2, vi (1 : Int32), vi (0 : Int32), vi k0] [(.ref a1)])) rfl rfl (hb hby d6_34)
  have go11 : Go p e below s₁ F0 T10 (mkF m 37 #[vr a1, vr a2, vi (0 : Int32), vr a2, vi (1 : Int32), vi (0 : Int32), vi k0] [(.ref w)]) := fun t_ k_ => go9 t_ (st10 t_ k_)
  have go12 : Go p e below s₁ F0 T10 (mkF m 38 #[vr a1, vr a2, vi (0 : Int32), vr a2, vi (1 : Int32), vi (0 : Int32), vi k0] [(.int (0 : Int32)), (.ref w)]) := by
    intro t_ k_
    refine go11 t_ ?_
    refine o_iloadN X10 hx (hb hby d6_37) rfl ?_
    exact k_
  obtain ⟨cl13, Ar13, -, Sz13, Nn13, Hs13, -⟩ := id VL
  have hin13 : ¬ ((0 : Int32) < 0 ∨ cl13.slots.size ≤ ((0 : Int32)).toNatClampNeg) := inb_of Sz13 ⟨by decide, by decide⟩
  have hat13 : cl13.slots[((0 : Int32)).toNatClampNeg]? = some (.int l0) := Hs13.at hin13 rfl
  have go14 : Go p e below s₁ F0 T10 (mkF m 41 #[vr a1, vr a2, vi (0 : Int32), vr a2, vi (1 : Int32), vi (0 : Int32), vi k0] [(.int k0), (.int l0)]) := by
    intro t_ k_
    refine go12 t_ ?_
    refine o_iaload X10 hx hZ e10 Ar13 hin13 hat13 (hb hby d6_38) ?_
    refine o_iload X10 hx (hb hby d6_39) rfl ?_
    exact k_
  by_cases hc41_15 : l0 < k0
  · skip
    have go16 : Go p e below s₁ F0 T10 (mkF m 26 #[vr a1, vr a2, vi (1 : Int32), vr a2, vi (1 : Int32), vi (0 : Int32), vi k0] [(.ref a1), (.int (1 : Int32))]) := by
      intro t_ k_
      refine go14 t_ ?_
      refine o_icmpNo X10 hx (hb hby d6_41) (tlt hc41_15).2.1 ?_
      refine o_iinc X10 hx (hb hby d6_44) rfl (L' := #[vr a1, vr a2, vi (1 : Int32), vr a2, vi (1 : Int32), vi (0 : Int32), vi k0]) rfl ?_
      refine o_goto X10 hx (hb hby d6_47) (pc' := 24) rfl (by decide) ?_
      refine o_iloadN X10 hx (hb hby d6_24) rfl ?_
      refine o_aloadN X10 hx (hb hby d6_25) rfl rfl ?_
      exact k_
    obtain ⟨T17, X17, e17, st17⟩ := getF X10 hx hZ hown (host := "") (Or.inl (own_w hw 26 rfl)) Via.refl e10 Fl (g := (mkF m 26 #[vr a1, vr a2, vi (1 : Int32), vr a2, vi (1 : Int32), vi (0 : Int32), vi k0] [(.ref a1), (.int (1 : Int32))])) rfl rfl (hb hby d6_26)
    have go18 : Go p e below s₁ F0 T17 (mkF m 29 #[vr a1, vr a2, vi (1 : Int32), vr a2, vi (1 : Int32), vi (0 : Int32), vi k0] [(.ref w), (.int (1 : Int32))]) := fun t_ k_ => go16 t_ (st17 t_ k_)
    obtain ⟨cl19, Ar19, -, Sz19, Nn19, -, -⟩ := id VL
    have go20 : Go p e below s₁ F0 T17 (mkF m 52 #[vr a1, vr a2, vi (1 : Int32), vr a2, vi (1 : Int32), vi (0 : Int32), vi k0] [(.ref a1), (.int (1 : Int32))]) := by
      intro t_ k_
      refine go18 t_ ?_
      refine o_len X17 hx hZ e17 Ar19 Sz19 Nn19 (hb hby d6_29) ?_
      refine o_icmpYes X17 hx (hb hby d6_30) (pc' := 50) rfl (by decide) (flt (by decide : ¬ ((1 : Int32) < (1 : Int32)))).2.1 ?_
      refine o_iloadN X17 hx (hb hby d6_50) rfl ?_
      refine o_aloadN X17 hx (hb hby d6_51) rfl rfl ?_
      exact k_
    obtain ⟨T21, X21, e21, st21⟩ := getF X17 hx hZ hown (host := "") (Or.inl (own_w hw 26 rfl)) Via.refl e17 Fl (g := (mkF m 52 #[vr a1, vr a2, vi (1 : Int32), vr a2, vi (1 : Int32), vi (0 : Int32), vi k0] [(.ref a1), (.int (1 : Int32))])) rfl rfl (hb hby d6_52)
    have go22 : Go p e below s₁ F0 T21 (mkF m 55 #[vr a1, vr a2, vi (1 : Int32), vr a2, vi (1 : Int32), vi (0 : Int32), vi k0] [(.ref w), (.int (1 : Int32))]) := fun t_ k_ => go20 t_ (st21 t_ k_)
    obtain ⟨cl23, Ar23, -, Sz23, Nn23, -, -⟩ := id VL
    have go24 : Go p e below s₁ F0 T21 (mkF m 71 #[vr a1, vr a2, vi (1 : Int32), vr a2, vi (1 : Int32), vi (0 : Int32), vi k0] [(.int (0 : Int32))]) := by
      intro t_ k_
      refine go22 t_ ?_
      refine o_len X21 hx hZ e21 Ar23 Sz23 Nn23 (hb hby d6_55) ?_
      refine o_icmpYes X21 hx (hb hby d6_56) (pc' := 70) rfl (by decide) (teq (by decide : (1 : Int32) = (1 : Int32))).1 ?_
      refine o_iconst X21 hx (hb hby d6_70) (v := 0) rfl ?_
      exact k_
    obtain ⟨fs, hr, hrun, hended, hW, hsame⟩ := X21.leave (v := some (.int (0 : Int32))) (fun h => by rw [Bd.returns] at h; cases h)
    refine ⟨_, _, pre0 _ (go24 _ ?_), hrun, hended, _, _, rfl, ?_, ⟨_, rfl⟩, hW, hsame.mono (by decide) (by decide)⟩
    · skip
      exact retN X21 hx (t := .boolean) Bd.returns (by simp) (hb hby d6_71) hr
    · show Q6_1_1 Z a1 a2 w kw kn l0 k0 h0 n0 _ T21.heap _
      rw [e21]
      exact ⟨(congrArg (fun z => some (Value.int z)) (show (0 : Int32) = f6_1_1 l0 k0 from by unfold f6_1_1; rw [if_pos hc41_15])), N0, rfl⟩
  · skip
    have go25 : Go p e below s₁ F0 T10 (mkF m 52 #[vr a1, vr a2, vi (0 : Int32), vr a2, vi (1 : Int32), vi (0 : Int32), vi k0] [(.ref a1), (.int (0 : Int32))]) := by
      intro t_ k_
      refine go14 t_ ?_
      refine o_icmpYes X10 hx (hb hby d6_41) (pc' := 50) rfl (by decide) (flt hc41_15).2.1 ?_
      refine o_iloadN X10 hx (hb hby d6_50) rfl ?_
      refine o_aloadN X10 hx (hb hby d6_51) rfl rfl ?_
      exact k_
    obtain ⟨T26, X26, e26, st26⟩ := getF X10 hx hZ hown (host := "") (Or.inl (own_w hw 26 rfl)) Via.refl e10 Fl (g := (mkF m 52 #[vr a1, vr a2, vi (0 : Int32), vr a2, vi (1 : Int32), vi (0 : Int32), vi k0] [(.ref a1), (.int (0 : Int32))])) rfl rfl (hb hby d6_52)
    have go27 : Go p e below s₁ F0 T26 (mkF m 55 #[vr a1, vr a2, vi (0 : Int32), vr a2, vi (1 : Int32), vi (0 : Int32), vi k0] [(.ref w), (.int (0 : Int32))]) := fun t_ k_ => go25 t_ (st26 t_ k_)
    obtain ⟨cl28, Ar28, -, Sz28, Nn28, -, -⟩ := id VL
    have go29 : Go p e below s₁ F0 T26 (mkF m 60 #[vr a1, vr a2, vi (0 : Int32), vr a2, vi (1 : Int32), vi (0 : Int32), vi k0] [(.ref a1)]) := by
      intro t_ k_
      refine go27 t_ ?_
      refine o_len X26 hx hZ e26 Ar28 Sz28 Nn28 (hb hby d6_55) ?_
      refine o_icmpNo X26 hx (hb hby d6_56) (feq (by decide : ¬ ((0 : Int32) = (1 : Int32)))).1 ?_
      refine o_aloadN X26 hx (hb hby d6_59) rfl rfl ?_
      exact k_
    obtain ⟨T30, X30, e30, st30⟩ := getF X26 hx hZ hown (host := "") (Or.inl (own_w hw 26 rfl)) Via.refl e26 Fl (g := (mkF m 60 #[vr a1, vr a2, vi (0 : Int32), vr a2, vi (1 : Int32), vi (0 : Int32), vi k0] [(.ref a1)])) rfl rfl (hb hby d6_60)
    have go31 : Go p e below s₁ F0 T30 (mkF m 63 #[vr a1, vr a2, vi (0 : Int32), vr a2, vi (1 : Int32), vi (0 : Int32), vi k0] [(.ref w)]) := fun t_ k_ => go29 t_ (st30 t_ k_)
    have go32 : Go p e below s₁ F0 T30 (mkF m 64 #[vr a1, vr a2, vi (0 : Int32), vr a2, vi (1 : Int32), vi (0 : Int32), vi k0] [(.int (0 : Int32)), (.ref w)]) := by
      intro t_ k_
      refine go31 t_ ?_
      refine o_iloadN X30 hx (hb hby d6_63) rfl ?_
      exact k_
    obtain ⟨cl33, Ar33, -, Sz33, Nn33, Hs33, -⟩ := id VL
    have hin33 : ¬ ((0 : Int32) < 0 ∨ cl33.slots.size ≤ ((0 : Int32)).toNatClampNeg) := inb_of Sz33 ⟨by decide, by decide⟩
    have hat33 : cl33.slots[((0 : Int32)).toNatClampNeg]? = some (.int l0) := Hs33.at hin33 rfl
    have go34 : Go p e below s₁ F0 T30 (mkF m 67 #[vr a1, vr a2, vi (0 : Int32), vr a2, vi (1 : Int32), vi (0 : Int32), vi k0] [(.int k0), (.int l0)]) := by
      intro t_ k_
      refine go32 t_ ?_
      refine o_iaload X30 hx hZ e30 Ar33 hin33 hat33 (hb hby d6_64) ?_
      refine o_iload X30 hx (hb hby d6_65) rfl ?_
      exact k_
    by_cases hc67_35 : l0 = k0
    · skip
      have go36 : Go p e below s₁ F0 T30 (mkF m 79 #[vr a1, vr a2, vi (0 : Int32), vr a2, vi (1 : Int32), vi (1 : Int32), vi k0] [(.int (1 : Int32))]) := by
        intro t_ k_
        refine go34 t_ ?_
        refine o_icmpYes X30 hx (hb hby d6_67) (pc' := 72) rfl (by decide) (teq hc67_35).1 ?_
        refine o_iinc X30 hx (hb hby d6_72) rfl (L' := #[vr a1, vr a2, vi (0 : Int32), vr a2, vi (1 : Int32), vi (1 : Int32), vi k0]) rfl ?_
        refine o_goto X30 hx (hb hby d6_75) (pc' := 11) rfl (by decide) ?_
        refine o_iload X30 hx (hb hby d6_11) rfl ?_
        refine o_iload X30 hx (hb hby d6_13) rfl ?_
        refine o_icmpYes X30 hx (hb hby d6_15) (pc' := 78) rfl (by decide) (flt (by decide : ¬ ((1 : Int32) < (1 : Int32)))).2.1 ?_
        refine o_iconst X30 hx (hb hby d6_78) (v := 1) rfl ?_
        exact k_
      obtain ⟨fs, hr, hrun, hended, hW, hsame⟩ := X30.leave (v := some (.int (1 : Int32))) (fun h => by rw [Bd.returns] at h; cases h)
      refine ⟨_, _, pre0 _ (go36 _ ?_), hrun, hended, _, _, rfl, ?_, ⟨_, rfl⟩, hW, hsame.mono (by decide) (by decide)⟩
      · skip
        exact retN X30 hx (t := .boolean) Bd.returns (by simp) (hb hby d6_79) hr
      · show Q6_1_1 Z a1 a2 w kw kn l0 k0 h0 n0 _ T30.heap _
        rw [e30]
        exact ⟨(congrArg (fun z => some (Value.int z)) (show (1 : Int32) = f6_1_1 l0 k0 from by unfold f6_1_1; rw [if_neg hc41_15, if_pos hc67_35])), N0, rfl⟩
    · skip
      have go37 : Go p e below s₁ F0 T30 (mkF m 71 #[vr a1, vr a2, vi (0 : Int32), vr a2, vi (1 : Int32), vi (0 : Int32), vi k0] [(.int (0 : Int32))]) := by
        intro t_ k_
        refine go34 t_ ?_
        refine o_icmpNo X30 hx (hb hby d6_67) (feq hc67_35).1 ?_
        refine o_iconst X30 hx (hb hby d6_70) (v := 0) rfl ?_
        exact k_
      obtain ⟨fs, hr, hrun, hended, hW, hsame⟩ := X30.leave (v := some (.int (0 : Int32))) (fun h => by rw [Bd.returns] at h; cases h)
      refine ⟨_, _, pre0 _ (go37 _ ?_), hrun, hended, _, _, rfl, ?_, ⟨_, rfl⟩, hW, hsame.mono (by decide) (by decide)⟩
      · skip
        exact retN X30 hx (t := .boolean) Bd.returns (by simp) (hb hby d6_71) hr
      · show Q6_1_1 Z a1 a2 w kw kn l0 k0 h0 n0 _ T30.heap _
        rw [e30]
        exact ⟨(congrArg (fun z => some (Value.int z)) (show (0 : Int32) = f6_1_1 l0 k0 from by unfold f6_1_1; rw [if_neg hc41_15, if_neg hc67_35])), N0, rfl⟩

theorem pn_6_1_2 : plainName "com/example/slackline/slackline/workload/Farm$Machine" = true := by first | (simp [plainName, overriddenIn]; done) | decide +kernel
theorem ef_6_1_2 (m : MethodId) (x0 : Addr) (x1 : Addr) : entryFrame m #[(.ref x0), (.ref x1)] 7 = mkF m 0 #[vr x0, vr x1, .unset, .unset, .unset, .unset, .unset] [] := by first | (simp [entryFrame, mkF, argsToLocals, Value.category]; done) | rfl
def f6_1_2 (l0 : Int32) (k0 : Int32) (k1 : Int32) : Int32 := (if l0 < k0 then (0 : Int32) else (if l0 = k0 then (0 : Int32) else (0 : Int32)))
def Q6_1_2 (Z : State) (a1 : Addr) (a2 : Addr) (w : Addr) (kw : ClassId) (kn : ClassId) (l0 : Int32) (k0 : Int32) (k1 : Int32) (h0 : Heap) (n0 : Nat) (v : Option Value) (h : Heap) (L : List Loc) : Prop := v = some (.int (f6_1_2 l0 k0 k1)) ∧ Fr n0 L ∧ h = h0
set_option maxRecDepth 65536 in
set_option maxHeartbeats 40000000 in
theorem rm6_1_2 (l : Launch) (Z : State) (a0 : Array Value) (hw : ∀ d ∈ tables_1, d.before a0 Z = true) (ws : List Jvm.Cond) (a1 : Addr) (a2 : Addr) (w : Addr) (kw : ClassId) (kn : ClassId) (l0 : Int32) (k0 : Int32) (k1 : Int32) (h0 : Heap) (n0 : Nat) (Z0 : n0 ≤ h0.size) (Fl : Fld Z h0 a1 c_0 "licences" "[I" (.ref w)) (VL : Arv Z h0 w kw .int (1 : Int32) [(.int l0)] (.int (0 : Int32))) (VN : Arv Z h0 a2 kn .int (2 : Int32) [(.int k0), (.int k1)] (.int (0 : Int32))) (s0 : k0 < k1) :
    MetFree l y_4 (head1 (Jvm.Cond.code y_4 prog_150_method_2_code 7 (some .boolean) :: ws) ({ frames := 0, cells := 0, slots := 0, locals := 0 } : Room)) (fun a U => a = #[(.ref a1), (.ref a2)] ∧ Z.Warmed39 U.vm ∧ U.heap = h0) (fun _ _ _ _ _ => True) (fun _ U o U' => ∃ v L, o = .returned v ∧ Q6_1_2 Z a1 a2 w kw kn l0 k0 k1 h0 n0 v U'.heap L ∧ FrameEnd U o U' L ({ frames := 0, cells := 0, slots := 0, locals := 0 } : Room).cells ({ frames := 0, cells := 0, slots := 0, locals := 0 } : Room).slots) := by
  refine MetFree.of_bodySF (plainFor_of_name pn_6_1_2) hisR ?_
  intro p e s m args below meth c s₁ Bd hml0 hP hK
  obtain ⟨rfl, hZ, hh⟩ := hP
  have hx := Bd.exec
  have hby := Bd.bytes
  have hml : c.maxLocals = 7 := hml0
  have hown : s.vm.findClass "com/example/slackline/slackline/workload/Farm$Machine" = some m.cls := findClass_of_methodNamed Bd.named
  have hnm := (name_of_methodNamed Bd.named Bd.method).1
  have X0 : Stand p l e ({ frames := 0, cells := 0, slots := 0, locals := 0 } : Room) s m #[(.ref a1), (.ref a2)] below meth c s₁ [] 0 0 := Stand.of_body Bd
  have e0 : s₁.heap = h0 := by rw [← hh, Bd.state]; rfl
  have N0 := Fr.nil n0
  obtain ⟨F0, hF0⟩ : ∃ F : JFrame, F = entryFrame m #[(.ref a1), (.ref a2)] 7 := ⟨_, rfl⟩
  have pre0 : ∀ t, Steps p.tables e below (s₁.setTop F0) t → Steps p.tables e below (s₁.setTop (entryFrame m #[(.ref a1), (.ref a2)] 7)) t := fun t k => hF0 ▸ k
  have go0 : Go p e below s₁ F0 s₁ (mkF m 0 #[vr a1, vr a2, .unset, .unset, .unset, .unset, .unset] []) := fun t k => castTop (hF0.trans (ef_6_1_2 m a1 a2)) k
  have go1 : Go p e below s₁ F0 s₁ (mkF m 5 #[vr a1, vr a2, vi (0 : Int32), vr a2, .unset, .unset, .unset] [(.ref a2)]) := by
    intro t_ k_
    refine go0 t_ ?_
    refine o_iconst X0 hx (hb hby d6_0) (v := 0) rfl ?_
    refine o_istoreN X0 hx (hb hby d6_1) (L' := #[vr a1, vr a2, vi (0 : Int32), .unset, .unset, .unset, .unset]) rfl ?_
    refine o_aloadN X0 hx (hb hby d6_2) rfl rfl ?_
    refine o_astoreN X0 hx (hb hby d6_3) rfl (L' := #[vr a1, vr a2, vi (0 : Int32), vr a2, .unset, .unset, .unset]) rfl ?_
    refine o_aloadN X0 hx (hb hby d6_4) rfl rfl ?_
    exact k_
  obtain ⟨cl2, Ar2, -, Sz2, Nn2, -, -⟩ := id VN
  have go3 : Go p e below s₁ F0 s₁ (mkF m 21 #[vr a1, vr a2, vi (0 : Int32), vr a2, vi (2 : Int32), vi (0 : Int32), .unset] [(.int (0 : Int32)), (.ref a2)]) := by
    intro t_ k_
    refine go1 t_ ?_
    refine o_len X0 hx hZ e0 Ar2 Sz2 Nn2 (hb hby d6_5) ?_
    refine o_istore X0 hx (hb hby d6_6) (L' := #[vr a1, vr a2, vi (0 : Int32), vr a2, vi (2 : Int32), .unset, .unset]) rfl ?_
    refine o_iconst X0 hx (hb hby d6_8) (v := 0) rfl ?_
    refine o_istore X0 hx (hb hby d6_9) (L' := #[vr a1, vr a2, vi (0 : Int32), vr a2, vi (2 : Int32), vi (0 : Int32), .unset]) rfl ?_
    refine o_iload X0 hx (hb hby d6_11) rfl ?_
    refine o_iload X0 hx (hb hby d6_13) rfl ?_
    refine o_icmpNo X0 hx (hb hby d6_15) (tlt (by decide : (0 : Int32) < (2 : Int32))).2.1 ?_
    refine o_aloadN X0 hx (hb hby d6_18) rfl rfl ?_
    refine o_iload X0 hx (hb hby d6_19) rfl ?_
    exact k_
  obtain ⟨cl4, Ar4, -, Sz4, Nn4, Hs4, -⟩ := id VN
  have hin4 : ¬ ((0 : Int32) < 0 ∨ cl4.slots.size ≤ ((0 : Int32)).toNatClampNeg) := inb_of Sz4 ⟨by decide, by decide⟩
  have hat4 : cl4.slots[((0 : Int32)).toNatClampNeg]? = some (.int k0) := Hs4.at hin4 rfl
  have go5 : Go p e below s₁ F0 s₁ (mkF m 26 #[vr a1, vr a2, vi (0 : Int32), vr a2, vi (2 : Int32), vi (0 : Int32), vi k0] [(.ref a1), (.int (0 : Int32))]) := by
    intro t_ k_
    refine go3 t_ ?_
    refine o_iaload X0 hx hZ e0 Ar4 hin4 hat4 (hb hby d6_21) ?_
    refine o_istore X0 hx (hb hby d6_22) (L' := #[vr a1, vr a2, vi (0 : Int32), vr a2, vi (2 : Int32), vi (0 : Int32), vi k0]) rfl ?_
    refine o_iloadN X0 hx (hb hby d6_24) rfl ?_
    refine o_aloadN X0 hx (hb hby d6_25) rfl rfl ?_
    exact k_
  obtain ⟨T6, X6, e6, st6⟩ := getF X0 hx hZ hown (host := "") (Or.inl (own_w hw 26 rfl)) Via.refl e0 Fl (g := (mkF m 26 #[vr a1, vr a2, vi (0 : Int32), vr a2, vi (2 : Int32), vi (0 : Int32), vi k0] [(.ref a1), (.int (0 : Int32))])) rfl rfl (hb hby d6_26)
  have go7 : Go p e below s₁ F0 T6 (mkF m 29 #[vr a1, vr a2, vi (0 : Int32), vr a2, vi (2 : Int32), vi (0 : Int32), vi k0] [(.ref w), (.int (0 : Int32))]) := fun t_ k_ => go5 t_ (st6 t_ k_)
  obtain ⟨cl8, Ar8, -, Sz8, Nn8, -, -⟩ := id VL
  have go9 : Go p e below s₁ F0 T6 (mkF m 34 #[vr a1, vr a2, vi (0 : Int32), vr a2, vi (2 : Int32), vi (0 : Int32), vi k0] [(.ref a1)]) := by
    intro t_ k_
    refine go7 t_ ?_
    refine o_len X6 hx hZ e6 Ar8 Sz8 Nn8 (hb hby d6_29) ?_
    refine o_icmpNo X6 hx (hb hby d6_30) (tlt (by decide : (0 : Int32) < (1 : Int32))).2.1 ?_
    refine o_aloadN X6 hx (hb hby d6_33) rfl rfl ?_
    exact k_
  obtain ⟨T10, X10, e10, st10⟩ := getF X6 hx hZ hown (host := "") (Or.inl (own_w hw 26 rfl)) Via.refl e6 Fl (g := (mkF m 34 #[vr a1, vr a2, vi (0 : Int32), vr a2, vi (2 : Int32), vi (0 : Int32), vi k0] [(.ref a1)])) rfl rfl (hb hby d6_34)
  have go11 : Go p e below s₁ F0 T10 (mkF m 37 #[vr a1, vr a2, vi (0 : Int32), vr a2, vi (2 : Int32), vi (0 : Int32), vi k0] [(.ref w)]) := fun t_ k_ => go9 t_ (st10 t_ k_)
  have go12 : Go p e below s₁ F0 T10 (mkF m 38 #[vr a1, vr a2, vi (0 : Int32), vr a2, vi (2 : Int32), vi (0 : Int32), vi k0] [(.int (0 : Int32)), (.ref w)]) := by
    intro t_ k_
    refine go11 t_ ?_
    refine o_iloadN X10 hx (hb hby d6_37) rfl ?_
    exact k_
  obtain ⟨cl13, Ar13, -, Sz13, Nn13, Hs13, -⟩ := id VL
  have hin13 : ¬ ((0 : Int32) < 0 ∨ cl13.slots.size ≤ ((0 : Int32)).toNatClampNeg) := inb_of Sz13 ⟨by decide, by decide⟩
  have hat13 : cl13.slots[((0 : Int32)).toNatClampNeg]? = some (.int l0) := Hs13.at hin13 rfl
  have go14 : Go p e below s₁ F0 T10 (mkF m 41 #[vr a1, vr a2, vi (0 : Int32), vr a2, vi (2 : Int32), vi (0 : Int32), vi k0] [(.int k0), (.int l0)]) := by
    intro t_ k_
    refine go12 t_ ?_
    refine o_iaload X10 hx hZ e10 Ar13 hin13 hat13 (hb hby d6_38) ?_
    refine o_iload X10 hx (hb hby d6_39) rfl ?_
    exact k_
  by_cases hc41_15 : l0 < k0
  · skip
    have go16 : Go p e below s₁ F0 T10 (mkF m 26 #[vr a1, vr a2, vi (1 : Int32), vr a2, vi (2 : Int32), vi (0 : Int32), vi k0] [(.ref a1), (.int (1 : Int32))]) := by
      intro t_ k_
      refine go14 t_ ?_
      refine o_icmpNo X10 hx (hb hby d6_41) (tlt hc41_15).2.1 ?_
      refine o_iinc X10 hx (hb hby d6_44) rfl (L' := #[vr a1, vr a2, vi (1 : Int32), vr a2, vi (2 : Int32), vi (0 : Int32), vi k0]) rfl ?_
      refine o_goto X10 hx (hb hby d6_47) (pc' := 24) rfl (by decide) ?_
      refine o_iloadN X10 hx (hb hby d6_24) rfl ?_
      refine o_aloadN X10 hx (hb hby d6_25) rfl rfl ?_
      exact k_
    obtain ⟨T17, X17, e17, st17⟩ := getF X10 hx hZ hown (host := "") (Or.inl (own_w hw 26 rfl)) Via.refl e10 Fl (g := (mkF m 26 #[vr a1, vr a2, vi (1 : Int32), vr a2, vi (2 : Int32), vi (0 : Int32), vi k0] [(.ref a1), (.int (1 : Int32))])) rfl rfl (hb hby d6_26)
    have go18 : Go p e below s₁ F0 T17 (mkF m 29 #[vr a1, vr a2, vi (1 : Int32), vr a2, vi (2 : Int32), vi (0 : Int32), vi k0] [(.ref w), (.int (1 : Int32))]) := fun t_ k_ => go16 t_ (st17 t_ k_)
    obtain ⟨cl19, Ar19, -, Sz19, Nn19, -, -⟩ := id VL
    have go20 : Go p e below s₁ F0 T17 (mkF m 52 #[vr a1, vr a2, vi (1 : Int32), vr a2, vi (2 : Int32), vi (0 : Int32), vi k0] [(.ref a1), (.int (1 : Int32))]) := by
      intro t_ k_
      refine go18 t_ ?_
      refine o_len X17 hx hZ e17 Ar19 Sz19 Nn19 (hb hby d6_29) ?_
      refine o_icmpYes X17 hx (hb hby d6_30) (pc' := 50) rfl (by decide) (flt (by decide : ¬ ((1 : Int32) < (1 : Int32)))).2.1 ?_
      refine o_iloadN X17 hx (hb hby d6_50) rfl ?_
      refine o_aloadN X17 hx (hb hby d6_51) rfl rfl ?_
      exact k_
    obtain ⟨T21, X21, e21, st21⟩ := getF X17 hx hZ hown (host := "") (Or.inl (own_w hw 26 rfl)) Via.refl e17 Fl (g := (mkF m 52 #[vr a1, vr a2, vi (1 : Int32), vr a2, vi (2 : Int32), vi (0 : Int32), vi k0] [(.ref a1), (.int (1 : Int32))])) rfl rfl (hb hby d6_52)
    have go22 : Go p e below s₁ F0 T21 (mkF m 55 #[vr a1, vr a2, vi (1 : Int32), vr a2, vi (2 : Int32), vi (0 : Int32), vi k0] [(.ref w), (.int (1 : Int32))]) := fun t_ k_ => go20 t_ (st21 t_ k_)
    obtain ⟨cl23, Ar23, -, Sz23, Nn23, -, -⟩ := id VL
    have go24 : Go p e below s₁ F0 T21 (mkF m 71 #[vr a1, vr a2, vi (1 : Int32), vr a2, vi (2 : Int32), vi (0 : Int32), vi k0] [(.int (0 : Int32))]) := by
      intro t_ k_
      refine go22 t_ ?_
      refine o_len X21 hx hZ e21 Ar23 Sz23 Nn23 (hb hby d6_55) ?_
      refine o_icmpYes X21 hx (hb hby d6_56) (pc' := 70) rfl (by decide) (teq (by decide : (1 : Int32) = (1 : Int32))).1 ?_
      refine o_iconst X21 hx (hb hby d6_70) (v := 0) rfl ?_
      exact k_
    obtain ⟨fs, hr, hrun, hended, hW, hsame⟩ := X21.leave (v := some (.int (0 : Int32))) (fun h => by rw [Bd.returns] at h; cases h)
    refine ⟨_, _, pre0 _ (go24 _ ?_), hrun, hended, _, _, rfl, ?_, ⟨_, rfl⟩, hW, hsame.mono (by decide) (by decide)⟩
    · skip
      exact retN X21 hx (t := .boolean) Bd.returns (by simp) (hb hby d6_71) hr
    · show Q6_1_2 Z a1 a2 w kw kn l0 k0 k1 h0 n0 _ T21.heap _
      rw [e21]
      exact ⟨(congrArg (fun z => some (Value.int z)) (show (0 : Int32) = f6_1_2 l0 k0 k1 from by unfold f6_1_2; rw [if_pos hc41_15])), N0, rfl⟩
  · skip
    have go25 : Go p e below s₁ F0 T10 (mkF m 52 #[vr a1, vr a2, vi (0 : Int32), vr a2, vi (2 : Int32), vi (0 : Int32), vi k0] [(.ref a1), (.int (0 : Int32))]) := by
      intro t_ k_
      refine go14 t_ ?_
      refine o_icmpYes X10 hx (hb hby d6_41) (pc' := 50) rfl (by decide) (flt hc41_15).2.1 ?_
      refine o_iloadN X10 hx (hb hby d6_50) rfl ?_
      refine o_aloadN X10 hx (hb hby d6_51) rfl rfl ?_
      exact k_
    obtain ⟨T26, X26, e26, st26⟩ := getF X10 hx hZ hown (host := "") (Or.inl (own_w hw 26 rfl)) Via.refl e10 Fl (g := (mkF m 52 #[vr a1, vr a2, vi (0 : Int32), vr a2, vi (2 : Int32), vi (0 : Int32), vi k0] [(.ref a1), (.int (0 : Int32))])) rfl rfl (hb hby d6_52)
    have go27 : Go p e below s₁ F0 T26 (mkF m 55 #[vr a1, vr a2, vi (0 : Int32), vr a2, vi (2 : Int32), vi (0 : Int32), vi k0] [(.ref w), (.int (0 : Int32))]) := fun t_ k_ => go25 t_ (st26 t_ k_)
    obtain ⟨cl28, Ar28, -, Sz28, Nn28, -, -⟩ := id VL
    have go29 : Go p e below s₁ F0 T26 (mkF m 60 #[vr a1, vr a2, vi (0 : Int32), vr a2, vi (2 : Int32), vi (0 : Int32), vi k0] [(.ref a1)]) := by
      intro t_ k_
      refine go27 t_ ?_
      refine o_len X26 hx hZ e26 Ar28 Sz28 Nn28 (hb hby d6_55) ?_
      refine o_icmpNo X26 hx (hb hby d6_56) (feq (by decide : ¬ ((0 : Int32) = (1 : Int32)))).1 ?_
      refine o_aloadN X26 hx (hb hby d6_59) rfl rfl ?_
      exact k_
    obtain ⟨T30, X30, e30, st30⟩ := getF X26 hx hZ hown (host := "") (Or.inl (own_w hw 26 rfl)) Via.refl e26 Fl (g := (mkF m 60 #[vr a1, vr a2, vi (0 : Int32), vr a2, vi (2 : Int32), vi (0 : Int32), vi k0] [(.ref a1)])) rfl rfl (hb hby d6_60)
    have go31 : Go p e below s₁ F0 T30 (mkF m 63 #[vr a1, vr a2, vi (0 : Int32), vr a2, vi (2 : Int32), vi (0 : Int32), vi k0] [(.ref w)]) := fun t_ k_ => go29 t_ (st30 t_ k_)
    have go32 : Go p e below s₁ F0 T30 (mkF m 64 #[vr a1, vr a2, vi (0 : Int32), vr a2, vi (2 : Int32), vi (0 : Int32), vi k0] [(.int (0 : Int32)), (.ref w)]) := by
      intro t_ k_
      refine go31 t_ ?_
      refine o_iloadN X30 hx (hb hby d6_63) rfl ?_
      exact k_
    obtain ⟨cl33, Ar33, -, Sz33, Nn33, Hs33, -⟩ := id VL
    have hin33 : ¬ ((0 : Int32) < 0 ∨ cl33.slots.size ≤ ((0 : Int32)).toNatClampNeg) := inb_of Sz33 ⟨by decide, by decide⟩
    have hat33 : cl33.slots[((0 : Int32)).toNatClampNeg]? = some (.int l0) := Hs33.at hin33 rfl
    have go34 : Go p e below s₁ F0 T30 (mkF m 67 #[vr a1, vr a2, vi (0 : Int32), vr a2, vi (2 : Int32), vi (0 : Int32), vi k0] [(.int k0), (.int l0)]) := by
      intro t_ k_
      refine go32 t_ ?_
      refine o_iaload X30 hx hZ e30 Ar33 hin33 hat33 (hb hby d6_64) ?_
      refine o_iload X30 hx (hb hby d6_65) rfl ?_
      exact k_
    by_cases hc67_35 : l0 = k0
    · skip
      have go36 : Go p e below s₁ F0 T30 (mkF m 21 #[vr a1, vr a2, vi (0 : Int32), vr a2, vi (2 : Int32), vi (1 : Int32), vi k0] [(.int (1 : Int32)), (.ref a2)]) := by
        intro t_ k_
        refine go34 t_ ?_
        refine o_icmpYes X30 hx (hb hby d6_67) (pc' := 72) rfl (by decide) (teq hc67_35).1 ?_
        refine o_iinc X30 hx (hb hby d6_72) rfl (L' := #[vr a1, vr a2, vi (0 : Int32), vr a2, vi (2 : Int32), vi (1 : Int32), vi k0]) rfl ?_
        refine o_goto X30 hx (hb hby d6_75) (pc' := 11) rfl (by decide) ?_
        refine o_iload X30 hx (hb hby d6_11) rfl ?_
        refine o_iload X30 hx (hb hby d6_13) rfl ?_
        refine o_icmpNo X30 hx (hb hby d6_15) (tlt (by decide : (1 : Int32) < (2 : Int32))).2.1 ?_
        refine o_aloadN X30 hx (hb hby d6_18) rfl rfl ?_
        refine o_iload X30 hx (hb hby d6_19) rfl ?_
        exact k_
      obtain ⟨cl37, Ar37, -, Sz37, Nn37, Hs37, -⟩ := id VN
      have hin37 : ¬ ((1 : Int32) < 0 ∨ cl37.slots.size ≤ ((1 : Int32)).toNatClampNeg) := inb_of Sz37 ⟨by decide, by decide⟩
      have hat37 : cl37.slots[((1 : Int32)).toNatClampNeg]? = some (.int k1) := Hs37.at hin37 rfl
      have go38 : Go p e below s₁ F0 T30 (mkF m 26 #[vr a1, vr a2, vi (0 : Int32), vr a2, vi (2 : Int32), vi (1 : Int32), vi k1] [(.ref a1), (.int (0 : Int32))]) := by
        intro t_ k_
        refine go36 t_ ?_
        refine o_iaload X30 hx hZ e30 Ar37 hin37 hat37 (hb hby d6_21) ?_
        refine o_istore X30 hx (hb hby d6_22) (L' := #[vr a1, vr a2, vi (0 : Int32), vr a2, vi (2 : Int32), vi (1 : Int32), vi k1]) rfl ?_
        refine o_iloadN X30 hx (hb hby d6_24) rfl ?_
        refine o_aloadN X30 hx (hb hby d6_25) rfl rfl ?_
        exact k_
      obtain ⟨T39, X39, e39, st39⟩ := getF X30 hx hZ hown (host := "") (Or.inl (own_w hw 26 rfl)) Via.refl e30 Fl (g := (mkF m 26 #[vr a1, vr a2, vi (0 : Int32), vr a2, vi (2 : Int32), vi (1 : Int32), vi k1] [(.ref a1), (.int (0 : Int32))])) rfl rfl (hb hby d6_26)
      have go40 : Go p e below s₁ F0 T39 (mkF m 29 #[vr a1, vr a2, vi (0 : Int32), vr a2, vi (2 : Int32), vi (1 : Int32), vi k1] [(.ref w), (.int (0 : Int32))]) := fun t_ k_ => go38 t_ (st39 t_ k_)
      obtain ⟨cl41, Ar41, -, Sz41, Nn41, -, -⟩ := id VL
      have go42 : Go p e below s₁ F0 T39 (mkF m 34 #[vr a1, vr a2, vi (0 : Int32), vr a2, vi (2 : Int32), vi (1 : Int32), vi k1] [(.ref a1)]) := by
        intro t_ k_
        refine go40 t_ ?_
        refine o_len X39 hx hZ e39 Ar41 Sz41 Nn41 (hb hby d6_29) ?_
        refine o_icmpNo X39 hx (hb hby d6_30) (tlt (by decide : (0 : Int32) < (1 : Int32))).2.1 ?_
        refine o_aloadN X39 hx (hb hby d6_33) rfl rfl ?_
        exact k_
      obtain ⟨T43, X43, e43, st43⟩ := getF X39 hx hZ hown (host := "") (Or.inl (own_w hw 26 rfl)) Via.refl e39 Fl (g := (mkF m 34 #[vr a1, vr a2, vi (0 : Int32), vr a2, vi (2 : Int32), vi (1 : Int32), vi k1] [(.ref a1)])) rfl rfl (hb hby d6_34)
      have go44 : Go p e below s₁ F0 T43 (mkF m 37 #[vr a1, vr a2, vi (0 : Int32), vr a2, vi (2 : Int32), vi (1 : Int32), vi k1] [(.ref w)]) := fun t_ k_ => go42 t_ (st43 t_ k_)
      have go45 : Go p e below s₁ F0 T43 (mkF m 38 #[vr a1, vr a2, vi (0 : Int32), vr a2, vi (2 : Int32), vi (1 : Int32), vi k1] [(.int (0 : Int32)), (.ref w)]) := by
        intro t_ k_
        refine go44 t_ ?_
        refine o_iloadN X43 hx (hb hby d6_37) rfl ?_
        exact k_
      obtain ⟨cl46, Ar46, -, Sz46, Nn46, Hs46, -⟩ := id VL
      have hin46 : ¬ ((0 : Int32) < 0 ∨ cl46.slots.size ≤ ((0 : Int32)).toNatClampNeg) := inb_of Sz46 ⟨by decide, by decide⟩
      have hat46 : cl46.slots[((0 : Int32)).toNatClampNeg]? = some (.int l0) := Hs46.at hin46 rfl
      have go48 : Go p e below s₁ F0 T43 (mkF m 41 #[vr a1, vr a2, vi (0 : Int32), vr a2, vi (2 : Int32), vi (1 : Int32), vi k1] [(.int k1), (.int l0)]) := by
        intro t_ k_
        refine go45 t_ ?_
        refine o_iaload X43 hx hZ e43 Ar46 hin46 hat46 (hb hby d6_38) ?_
        refine o_iload X43 hx (hb hby d6_39) rfl ?_
        exact k_
      have hd47 : l0 < k1 := (by rw [hc67_35]; exact s0)
      have go49 : Go p e below s₁ F0 T43 (mkF m 26 #[vr a1, vr a2, vi (1 : Int32), vr a2, vi (2 : Int32), vi (1 : Int32), vi k1] [(.ref a1), (.int (1 : Int32))]) := by
        intro t_ k_
        refine go48 t_ ?_
        refine o_icmpNo X43 hx (hb hby d6_41) (tlt hd47).2.1 ?_
        refine o_iinc X43 hx (hb hby d6_44) rfl (L' := #[vr a1, vr a2, vi (1 : Int32), vr a2, vi (2 : Int32), vi (1 : Int32), vi k1]) rfl ?_
        refine o_goto X43 hx (hb hby d6_47) (pc' := 24) rfl (by decide) ?_
        refine o_iloadN X43 hx (hb hby d6_24) rfl ?_
        refine o_aloadN X43 hx (hb hby d6_25) rfl rfl ?_
        exact k_
      obtain ⟨T50, X50, e50, st50⟩ := getF X43 hx hZ hown (host := "") (Or.inl (own_w hw 26 rfl)) Via.refl e43 Fl (g := (mkF m 26 #[vr a1, vr a2, vi (1 : Int32), vr a2, vi (2 : Int32), vi (1 : Int32), vi k1] [(.ref a1), (.int (1 : Int32))])) rfl rfl (hb hby d6_26)
      have go51 : Go p e below s₁ F0 T50 (mkF m 29 #[vr a1, vr a2, vi (1 : Int32), vr a2, vi (2 : Int32), vi (1 : Int32), vi k1] [(.ref w), (.int (1 : Int32))]) := fun t_ k_ => go49 t_ (st50 t_ k_)
      obtain ⟨cl52, Ar52, -, Sz52, Nn52, -, -⟩ := id VL
      have go53 : Go p e below s₁ F0 T50 (mkF m 52 #[vr a1, vr a2, vi (1 : Int32), vr a2, vi (2 : Int32), vi (1 : Int32), vi k1] [(.ref a1), (.int (1 : Int32))]) := by
        intro t_ k_
        refine go51 t_ ?_
        refine o_len X50 hx hZ e50 Ar52 Sz52 Nn52 (hb hby d6_29) ?_
        refine o_icmpYes X50 hx (hb hby d6_30) (pc' := 50) rfl (by decide) (flt (by decide : ¬ ((1 : Int32) < (1 : Int32)))).2.1 ?_
        refine o_iloadN X50 hx (hb hby d6_50) rfl ?_
        refine o_aloadN X50 hx (hb hby d6_51) rfl rfl ?_
        exact k_
      obtain ⟨T54, X54, e54, st54⟩ := getF X50 hx hZ hown (host := "") (Or.inl (own_w hw 26 rfl)) Via.refl e50 Fl (g := (mkF m 52 #[vr a1, vr a2, vi (1 : Int32), vr a2, vi (2 : Int32), vi (1 : Int32), vi k1] [(.ref a1), (.int (1 : Int32))])) rfl rfl (hb hby d6_52)
      have go55 : Go p e below s₁ F0 T54 (mkF m 55 #[vr a1, vr a2, vi (1 : Int32), vr a2, vi (2 : Int32), vi (1 : Int32), vi k1] [(.ref w), (.int (1 : Int32))]) := fun t_ k_ => go53 t_ (st54 t_ k_)
      obtain ⟨cl56, Ar56, -, Sz56, Nn56, -, -⟩ := id VL
      have go57 : Go p e below s₁ F0 T54 (mkF m 71 #[vr a1, vr a2, vi (1 : Int32), vr a2, vi (2 : Int32), vi (1 : Int32), vi k1] [(.int (0 : Int32))]) := by
        intro t_ k_
        refine go55 t_ ?_
        refine o_len X54 hx hZ e54 Ar56 Sz56 Nn56 (hb hby d6_55) ?_
        refine o_icmpYes X54 hx (hb hby d6_56) (pc' := 70) rfl (by decide) (teq (by decide : (1 : Int32) = (1 : Int32))).1 ?_
        refine o_iconst X54 hx (hb hby d6_70) (v := 0) rfl ?_
        exact k_
      obtain ⟨fs, hr, hrun, hended, hW, hsame⟩ := X54.leave (v := some (.int (0 : Int32))) (fun h => by rw [Bd.returns] at h; cases h)
      refine ⟨_, _, pre0 _ (go57 _ ?_), hrun, hended, _, _, rfl, ?_, ⟨_, rfl⟩, hW, hsame.mono (by decide) (by decide)⟩
      · skip
        exact retN X54 hx (t := .boolean) Bd.returns (by simp) (hb hby d6_71) hr
      · show Q6_1_2 Z a1 a2 w kw kn l0 k0 k1 h0 n0 _ T54.heap _
        rw [e54]
        exact ⟨(congrArg (fun z => some (Value.int z)) (show (0 : Int32) = f6_1_2 l0 k0 k1 from by unfold f6_1_2; rw [if_neg hc41_15, if_pos hc67_35])), N0, rfl⟩
    · skip
      have go58 : Go p e below s₁ F0 T30 (mkF m 71 #[vr a1, vr a2, vi (0 : Int32), vr a2, vi (2 : Int32), vi (0 : Int32), vi k0] [(.int (0 : Int32))]) := by
        intro t_ k_
        refine go34 t_ ?_
        refine o_icmpNo X30 hx (hb hby d6_67) (feq hc67_35).1 ?_
        refine o_iconst X30 hx (hb hby d6_70) (v := 0) rfl ?_
        exact k_
      obtain ⟨fs, hr, hrun, hended, hW, hsame⟩ := X30.leave (v := some (.int (0 : Int32))) (fun h => by rw [Bd.returns] at h; cases h)
      refine ⟨_, _, pre0 _ (go58 _ ?_), hrun, hended, _, _, rfl, ?_, ⟨_, rfl⟩, hW, hsame.mono (by decide) (by decide)⟩
      · skip
        exact retN X30 hx (t := .boolean) Bd.returns (by simp) (hb hby d6_71) hr
      · show Q6_1_2 Z a1 a2 w kw kn l0 k0 k1 h0 n0 _ T30.heap _
        rw [e30]
        exact ⟨(congrArg (fun z => some (Value.int z)) (show (0 : Int32) = f6_1_2 l0 k0 k1 from by unfold f6_1_2; rw [if_neg hc41_15, if_neg hc67_35])), N0, rfl⟩

theorem pn_6_1_3 : plainName "com/example/slackline/slackline/workload/Farm$Machine" = true := by first | (simp [plainName, overriddenIn]; done) | decide +kernel
theorem ef_6_1_3 (m : MethodId) (x0 : Addr) (x1 : Addr) : entryFrame m #[(.ref x0), (.ref x1)] 7 = mkF m 0 #[vr x0, vr x1, .unset, .unset, .unset, .unset, .unset] [] := by first | (simp [entryFrame, mkF, argsToLocals, Value.category]; done) | rfl
def f6_1_3 (l0 : Int32) (k0 : Int32) (k1 : Int32) (k2 : Int32) : Int32 := (if l0 < k0 then (0 : Int32) else (if l0 = k0 then (0 : Int32) else (0 : Int32)))
def Q6_1_3 (Z : State) (a1 : Addr) (a2 : Addr) (w : Addr) (kw : ClassId) (kn : ClassId) (l0 : Int32) (k0 : Int32) (k1 : Int32) (k2 : Int32) (h0 : Heap) (n0 : Nat) (v : Option Value) (h : Heap) (L : List Loc) : Prop := v = some (.int (f6_1_3 l0 k0 k1 k2)) ∧ Fr n0 L ∧ h = h0
set_option maxRecDepth 65536 in
set_option maxHeartbeats 40000000 in
theorem rm6_1_3 (l : Launch) (Z : State) (a0 : Array Value) (hw : ∀ d ∈ tables_1, d.before a0 Z = true) (ws : List Jvm.Cond) (a1 : Addr) (a2 : Addr) (w : Addr) (kw : ClassId) (kn : ClassId) (l0 : Int32) (k0 : Int32) (k1 : Int32) (k2 : Int32) (h0 : Heap) (n0 : Nat) (Z0 : n0 ≤ h0.size) (Fl : Fld Z h0 a1 c_0 "licences" "[I" (.ref w)) (VL : Arv Z h0 w kw .int (1 : Int32) [(.int l0)] (.int (0 : Int32))) (VN : Arv Z h0 a2 kn .int (3 : Int32) [(.int k0), (.int k1), (.int k2)] (.int (0 : Int32))) (s0 : k0 < k1) (s1 : k1 < k2) :
    MetFree l y_4 (head1 (Jvm.Cond.code y_4 prog_150_method_2_code 7 (some .boolean) :: ws) ({ frames := 0, cells := 0, slots := 0, locals := 0 } : Room)) (fun a U => a = #[(.ref a1), (.ref a2)] ∧ Z.Warmed39 U.vm ∧ U.heap = h0) (fun _ _ _ _ _ => True) (fun _ U o U' => ∃ v L, o = .returned v ∧ Q6_1_3 Z a1 a2 w kw kn l0 k0 k1 k2 h0 n0 v U'.heap L ∧ FrameEnd U o U' L ({ frames := 0, cells := 0, slots := 0, locals := 0 } : Room).cells ({ frames := 0, cells := 0, slots := 0, locals := 0 } : Room).slots) := by
  refine MetFree.of_bodySF (plainFor_of_name pn_6_1_3) hisR ?_
  intro p e s m args below meth c s₁ Bd hml0 hP hK
  obtain ⟨rfl, hZ, hh⟩ := hP
  have hx := Bd.exec
  have hby := Bd.bytes
  have hml : c.maxLocals = 7 := hml0
  have hown : s.vm.findClass "com/example/slackline/slackline/workload/Farm$Machine" = some m.cls := findClass_of_methodNamed Bd.named
  have hnm := (name_of_methodNamed Bd.named Bd.method).1
  have X0 : Stand p l e ({ frames := 0, cells := 0, slots := 0, locals := 0 } : Room) s m #[(.ref a1), (.ref a2)] below meth c s₁ [] 0 0 := Stand.of_body Bd
  have e0 : s₁.heap = h0 := by rw [← hh, Bd.state]; rfl
  have N0 := Fr.nil n0
  obtain ⟨F0, hF0⟩ : ∃ F : JFrame, F = entryFrame m #[(.ref a1), (.ref a2)] 7 := ⟨_, rfl⟩
  have pre0 : ∀ t, Steps p.tables e below (s₁.setTop F0) t → Steps p.tables e below (s₁.setTop (entryFrame m #[(.ref a1), (.ref a2)] 7)) t := fun t k => hF0 ▸ k
  have go0 : Go p e below s₁ F0 s₁ (mkF m 0 #[vr a1, vr a2, .unset, .unset, .unset, .unset, .unset] []) := fun t k => castTop (hF0.trans (ef_6_1_3 m a1 a2)) k
  have go1 : Go p e below s₁ F0 s₁ (mkF m 5 #[vr a1, vr a2, vi (0 : Int32), vr a2, .unset, .unset, .unset] [(.ref a2)]) := by
    intro t_ k_
    refine go0 t_ ?_
    refine o_iconst X0 hx (hb hby d6_0) (v := 0) rfl ?_
    refine o_istoreN X0 hx (hb hby d6_1) (L' := #[vr a1, vr a2, vi (0 : Int32), .unset, .unset, .unset, .unset]) rfl ?_
    refine o_aloadN X0 hx (hb hby d6_2) rfl rfl ?_
    refine o_astoreN X0 hx (hb hby d6_3) rfl (L' := #[vr a1, vr a2, vi (0 : Int32), vr a2, .unset, .unset, .unset]) rfl ?_
    refine o_aloadN X0 hx (hb hby d6_4) rfl rfl ?_
    exact k_
  obtain ⟨cl2, Ar2, -, Sz2, Nn2, -, -⟩ := id VN
  have go3 : Go p e below s₁ F0 s₁ (mkF m 21 #[vr a1, vr a2, vi (0 : Int32), vr a2, vi (3 : Int32), vi (0 : Int32), .unset] [(.int (0 : Int32)), (.ref a2)]) := by
    intro t_ k_
    refine go1 t_ ?_
    refine o_len X0 hx hZ e0 Ar2 Sz2 Nn2 (hb hby d6_5) ?_
    refine o_istore X0 hx (hb hby d6_6) (L' := #[vr a1, vr a2, vi (0 : Int32), vr a2, vi (3 : Int32), .unset, .unset]) rfl ?_
    refine o_iconst X0 hx (hb hby d6_8) (v := 0) rfl ?_
    refine o_istore X0 hx (hb hby d6_9) (L' := #[vr a1, vr a2, vi (0 : Int32), vr a2, vi (3 : Int32), vi (0 : Int32), .unset]) rfl ?_
    refine o_iload X0 hx (hb hby d6_11) rfl ?_
    refine o_iload X0 hx (hb hby d6_13) rfl ?_
    refine o_icmpNo X0 hx (hb hby d6_15) (tlt (by decide : (0 : Int32) < (3 : Int32))).2.1 ?_
    refine o_aloadN X0 hx (hb hby d6_18) rfl rfl ?_
    refine o_iload X0 hx (hb hby d6_19) rfl ?_
    exact k_
  obtain ⟨cl4, Ar4, -, Sz4, Nn4, Hs4, -⟩ := id VN
  have hin4 : ¬ ((0 : Int32) < 0 ∨ cl4.slots.size ≤ ((0 : Int32)).toNatClampNeg) := inb_of Sz4 ⟨by decide, by decide⟩
  have hat4 : cl4.slots[((0 : Int32)).toNatClampNeg]? = some (.int k0) := Hs4.at hin4 rfl
  have go5 : Go p e below s₁ F0 s₁ (mkF m 26 #[vr a1, vr a2, vi (0 : Int32), vr a2, vi (3 : Int32), vi (0 : Int32), vi k0] [(.ref a1), (.int (0 : Int32))]) := by
    intro t_ k_
    refine go3 t_ ?_
    refine o_iaload X0 hx hZ e0 Ar4 hin4 hat4 (hb hby d6_21) ?_
    refine o_istore X0 hx (hb hby d6_22) (L' := #[vr a1, vr a2, vi (0 : Int32), vr a2, vi (3 : Int32), vi (0 : Int32), vi k0]) rfl ?_
    refine o_iloadN X0 hx (hb hby d6_24) rfl ?_
    refine o_aloadN X0 hx (hb hby d6_25) rfl rfl ?_
    exact k_
  obtain ⟨T6, X6, e6, st6⟩ := getF X0 hx hZ hown (host := "") (Or.inl (own_w hw 26 rfl)) Via.refl e0 Fl (g := (mkF m 26 #[vr a1, vr a2, vi (0 : Int32), vr a2, vi (3 : Int32), vi (0 : Int32), vi k0] [(.ref a1), (.int (0 : Int32))])) rfl rfl (hb hby d6_26)
  have go7 : Go p e below s₁ F0 T6 (mkF m 29 #[vr a1, vr a2, vi (0 : Int32), vr a2, vi (3 : Int32), vi (0 : Int32), vi k0] [(.ref w), (.int (0 : Int32))]) := fun t_ k_ => go5 t_ (st6 t_ k_)
  obtain ⟨cl8, Ar8, -, Sz8, Nn8, -, -⟩ := id VL
  have go9 : Go p e below s₁ F0 T6 (mkF m 34 #[vr a1, vr a2, vi (0 : Int32), vr a2, vi (3 : Int32), vi (0 : Int32), vi k0] [(.ref a1)]) := by
    intro t_ k_
    refine go7 t_ ?_
    refine o_len X6 hx hZ e6 Ar8 Sz8 Nn8 (hb hby d6_29) ?_
    refine o_icmpNo X6 hx (hb hby d6_30) (tlt (by decide : (0 : Int32) < (1 : Int32))).2.1 ?_
    refine o_aloadN X6 hx (hb hby d6_33) rfl rfl ?_
    exact k_
  obtain ⟨T10, X10, e10, st10⟩ := getF X6 hx hZ hown (host := "") (Or.inl (own_w hw 26 rfl)) Via.refl e6 Fl (g := (mkF m 34 #[vr a1, vr a2, vi (0 : Int32), vr a2, vi (3 : Int32), vi (0 : Int32), vi k0] [(.ref a1)])) rfl rfl (hb hby d6_34)
  have go11 : Go p e below s₁ F0 T10 (mkF m 37 #[vr a1, vr a2, vi (0 : Int32), vr a2, vi (3 : Int32), vi (0 : Int32), vi k0] [(.ref w)]) := fun t_ k_ => go9 t_ (st10 t_ k_)
  have go12 : Go p e below s₁ F0 T10 (mkF m 38 #[vr a1, vr a2, vi (0 : Int32), vr a2, vi (3 : Int32), vi (0 : Int32), vi k0] [(.int (0 : Int32)), (.ref w)]) := by
    intro t_ k_
    refine go11 t_ ?_
    refine o_iloadN X10 hx (hb hby d6_37) rfl ?_
    exact k_
  obtain ⟨cl13, Ar13, -, Sz13, Nn13, Hs13, -⟩ := id VL
  have hin13 : ¬ ((0 : Int32) < 0 ∨ cl13.slots.size ≤ ((0 : Int32)).toNatClampNeg) := inb_of Sz13 ⟨by decide, by decide⟩
  have hat13 : cl13.slots[((0 : Int32)).toNatClampNeg]? = some (.int l0) := Hs13.at hin13 rfl
  have go14 : Go p e below s₁ F0 T10 (mkF m 41 #[vr a1, vr a2, vi (0 : Int32), vr a2, vi (3 : Int32), vi (0 : Int32), vi k0] [(.int k0), (.int l0)]) := by
    intro t_ k_
    refine go12 t_ ?_
    refine o_iaload X10 hx hZ e10 Ar13 hin13 hat13 (hb hby d6_38) ?_
    refine o_iload X10 hx (hb hby d6_39) rfl ?_
    exact k_
  by_cases hc41_15 : l0 < k0
  · skip
    have go16 : Go p e below s₁ F0 T10 (mkF m 26 #[vr a1, vr a2, vi (1 : Int32), vr a2, vi (3 : Int32), vi (0 : Int32), vi k0] [(.ref a1), (.int (1 : Int32))]) := by
      intro t_ k_
      refine go14 t_ ?_
      refine o_icmpNo X10 hx (hb hby d6_41) (tlt hc41_15).2.1 ?_
      refine o_iinc X10 hx (hb hby d6_44) rfl (L' := #[vr a1, vr a2, vi (1 : Int32), vr a2, vi (3 : Int32), vi (0 : Int32), vi k0]) rfl ?_
      refine o_goto X10 hx (hb hby d6_47) (pc' := 24) rfl (by decide) ?_
      refine o_iloadN X10 hx (hb hby d6_24) rfl ?_
      refine o_aloadN X10 hx (hb hby d6_25) rfl rfl ?_
      exact k_
    obtain ⟨T17, X17, e17, st17⟩ := getF X10 hx hZ hown (host := "") (Or.inl (own_w hw 26 rfl)) Via.refl e10 Fl (g := (mkF m 26 #[vr a1, vr a2, vi (1 : Int32), vr a2, vi (3 : Int32), vi (0 : Int32), vi k0] [(.ref a1), (.int (1 : Int32))])) rfl rfl (hb hby d6_26)
    have go18 : Go p e below s₁ F0 T17 (mkF m 29 #[vr a1, vr a2, vi (1 : Int32), vr a2, vi (3 : Int32), vi (0 : Int32), vi k0] [(.ref w), (.int (1 : Int32))]) := fun t_ k_ => go16 t_ (st17 t_ k_)
    obtain ⟨cl19, Ar19, -, Sz19, Nn19, -, -⟩ := id VL
    have go20 : Go p e below s₁ F0 T17 (mkF m 52 #[vr a1, vr a2, vi (1 : Int32), vr a2, vi (3 : Int32), vi (0 : Int32), vi k0] [(.ref a1), (.int (1 : Int32))]) := by
      intro t_ k_
      refine go18 t_ ?_
      refine o_len X17 hx hZ e17 Ar19 Sz19 Nn19 (hb hby d6_29) ?_
      refine o_icmpYes X17 hx (hb hby d6_30) (pc' := 50) rfl (by decide) (flt (by decide : ¬ ((1 : Int32) < (1 : Int32)))).2.1 ?_
      refine o_iloadN X17 hx (hb hby d6_50) rfl ?_
      refine o_aloadN X17 hx (hb hby d6_51) rfl rfl ?_
      exact k_
    obtain ⟨T21, X21, e21, st21⟩ := getF X17 hx hZ hown (host := "") (Or.inl (own_w hw 26 rfl)) Via.refl e17 Fl (g := (mkF m 52 #[vr a1, vr a2, vi (1 : Int32), vr a2, vi (3 : Int32), vi (0 : Int32), vi k0] [(.ref a1), (.int (1 : Int32))])) rfl rfl (hb hby d6_52)
    have go22 : Go p e below s₁ F0 T21 (mkF m 55 #[vr a1, vr a2, vi (1 : Int32), vr a2, vi (3 : Int32), vi (0 : Int32), vi k0] [(.ref w), (.int (1 : Int32))]) := fun t_ k_ => go20 t_ (st21 t_ k_)
    obtain ⟨cl23, Ar23, -, Sz23, Nn23, -, -⟩ := id VL
    have go24 : Go p e below s₁ F0 T21 (mkF m 71 #[vr a1, vr a2, vi (1 : Int32), vr a2, vi (3 : Int32), vi (0 : Int32), vi k0] [(.int (0 : Int32))]) := by
      intro t_ k_
      refine go22 t_ ?_
      refine o_len X21 hx hZ e21 Ar23 Sz23 Nn23 (hb hby d6_55) ?_
      refine o_icmpYes X21 hx (hb hby d6_56) (pc' := 70) rfl (by decide) (teq (by decide : (1 : Int32) = (1 : Int32))).1 ?_
      refine o_iconst X21 hx (hb hby d6_70) (v := 0) rfl ?_
      exact k_
    obtain ⟨fs, hr, hrun, hended, hW, hsame⟩ := X21.leave (v := some (.int (0 : Int32))) (fun h => by rw [Bd.returns] at h; cases h)
    refine ⟨_, _, pre0 _ (go24 _ ?_), hrun, hended, _, _, rfl, ?_, ⟨_, rfl⟩, hW, hsame.mono (by decide) (by decide)⟩
    · skip
      exact retN X21 hx (t := .boolean) Bd.returns (by simp) (hb hby d6_71) hr
    · show Q6_1_3 Z a1 a2 w kw kn l0 k0 k1 k2 h0 n0 _ T21.heap _
      rw [e21]
      exact ⟨(congrArg (fun z => some (Value.int z)) (show (0 : Int32) = f6_1_3 l0 k0 k1 k2 from by unfold f6_1_3; rw [if_pos hc41_15])), N0, rfl⟩
  · skip
    have go25 : Go p e below s₁ F0 T10 (mkF m 52 #[vr a1, vr a2, vi (0 : Int32), vr a2, vi (3 : Int32), vi (0 : Int32), vi k0] [(.ref a1), (.int (0 : Int32))]) := by
      intro t_ k_
      refine go14 t_ ?_
      refine o_icmpYes X10 hx (hb hby d6_41) (pc' := 50) rfl (by decide) (flt hc41_15).2.1 ?_
      refine o_iloadN X10 hx (hb hby d6_50) rfl ?_
      refine o_aloadN X10 hx (hb hby d6_51) rfl rfl ?_
      exact k_
    obtain ⟨T26, X26, e26, st26⟩ := getF X10 hx hZ hown (host := "") (Or.inl (own_w hw 26 rfl)) Via.refl e10 Fl (g := (mkF m 52 #[vr a1, vr a2, vi (0 : Int32), vr a2, vi (3 : Int32), vi (0 : Int32), vi k0] [(.ref a1), (.int (0 : Int32))])) rfl rfl (hb hby d6_52)
    have go27 : Go p e below s₁ F0 T26 (mkF m 55 #[vr a1, vr a2, vi (0 : Int32), vr a2, vi (3 : Int32), vi (0 : Int32), vi k0] [(.ref w), (.int (0 : Int32))]) := fun t_ k_ => go25 t_ (st26 t_ k_)
    obtain ⟨cl28, Ar28, -, Sz28, Nn28, -, -⟩ := id VL
    have go29 : Go p e below s₁ F0 T26 (mkF m 60 #[vr a1, vr a2, vi (0 : Int32), vr a2, vi (3 : Int32), vi (0 : Int32), vi k0] [(.ref a1)]) := by
      intro t_ k_
      refine go27 t_ ?_
      refine o_len X26 hx hZ e26 Ar28 Sz28 Nn28 (hb hby d6_55) ?_
      refine o_icmpNo X26 hx (hb hby d6_56) (feq (by decide : ¬ ((0 : Int32) = (1 : Int32)))).1 ?_
      refine o_aloadN X26 hx (hb hby d6_59) rfl rfl ?_
      exact k_
    obtain ⟨T30, X30, e30, st30⟩ := getF X26 hx hZ hown (host := "") (Or.inl (own_w hw 26 rfl)) Via.refl e26 Fl (g := (mkF m 60 #[vr a1, vr a2, vi (0 : Int32), vr a2, vi (3 : Int32), vi (0 : Int32), vi k0] [(.ref a1)])) rfl rfl (hb hby d6_60)
    have go31 : Go p e below s₁ F0 T30 (mkF m 63 #[vr a1, vr a2, vi (0 : Int32), vr a2, vi (3 : Int32), vi (0 : Int32), vi k0] [(.ref w)]) := fun t_ k_ => go29 t_ (st30 t_ k_)
    have go32 : Go p e below s₁ F0 T30 (mkF m 64 #[vr a1, vr a2, vi (0 : Int32), vr a2, vi (3 : Int32), vi (0 : Int32), vi k0] [(.int (0 : Int32)), (.ref w)]) := by
      intro t_ k_
      refine go31 t_ ?_
      refine o_iloadN X30 hx (hb hby d6_63) rfl ?_
      exact k_
    obtain ⟨cl33, Ar33, -, Sz33, Nn33, Hs33, -⟩ := id VL
    have hin33 : ¬ ((0 : Int32) < 0 ∨ cl33.slots.size ≤ ((0 : Int32)).toNatClampNeg) := inb_of Sz33 ⟨by decide, by decide⟩
    have hat33 : cl33.slots[((0 : Int32)).toNatClampNeg]? = some (.int l0) := Hs33.at hin33 rfl
    have go34 : Go p e below s₁ F0 T30 (mkF m 67 #[vr a1, vr a2, vi (0 : Int32), vr a2, vi (3 : Int32), vi (0 : Int32), vi k0] [(.int k0), (.int l0)]) := by
      intro t_ k_
      refine go32 t_ ?_
      refine o_iaload X30 hx hZ e30 Ar33 hin33 hat33 (hb hby d6_64) ?_
      refine o_iload X30 hx (hb hby d6_65) rfl ?_
      exact k_
    by_cases hc67_35 : l0 = k0
    · skip
      have go36 : Go p e below s₁ F0 T30 (mkF m 21 #[vr a1, vr a2, vi (0 : Int32), vr a2, vi (3 : Int32), vi (1 : Int32), vi k0] [(.int (1 : Int32)), (.ref a2)]) := by
        intro t_ k_
        refine go34 t_ ?_
        refine o_icmpYes X30 hx (hb hby d6_67) (pc' := 72) rfl (by decide) (teq hc67_35).1 ?_
        refine o_iinc X30 hx (hb hby d6_72) rfl (L' := #[vr a1, vr a2, vi (0 : Int32), vr a2, vi (3 : Int32), vi (1 : Int32), vi k0]) rfl ?_
        refine o_goto X30 hx (hb hby d6_75) (pc' := 11) rfl (by decide) ?_
        refine o_iload X30 hx (hb hby d6_11) rfl ?_
        refine o_iload X30 hx (hb hby d6_13) rfl ?_
        refine o_icmpNo X30 hx (hb hby d6_15) (tlt (by decide : (1 : Int32) < (3 : Int32))).2.1 ?_
        refine o_aloadN X30 hx (hb hby d6_18) rfl rfl ?_
        refine o_iload X30 hx (hb hby d6_19) rfl ?_
        exact k_
      obtain ⟨cl37, Ar37, -, Sz37, Nn37, Hs37, -⟩ := id VN
      have hin37 : ¬ ((1 : Int32) < 0 ∨ cl37.slots.size ≤ ((1 : Int32)).toNatClampNeg) := inb_of Sz37 ⟨by decide, by decide⟩
      have hat37 : cl37.slots[((1 : Int32)).toNatClampNeg]? = some (.int k1) := Hs37.at hin37 rfl
      have go38 : Go p e below s₁ F0 T30 (mkF m 26 #[vr a1, vr a2, vi (0 : Int32), vr a2, vi (3 : Int32), vi (1 : Int32), vi k1] [(.ref a1), (.int (0 : Int32))]) := by
        intro t_ k_
        refine go36 t_ ?_
        refine o_iaload X30 hx hZ e30 Ar37 hin37 hat37 (hb hby d6_21) ?_
        refine o_istore X30 hx (hb hby d6_22) (L' := #[vr a1, vr a2, vi (0 : Int32), vr a2, vi (3 : Int32), vi (1 : Int32), vi k1]) rfl ?_
        refine o_iloadN X30 hx (hb hby d6_24) rfl ?_
        refine o_aloadN X30 hx (hb hby d6_25) rfl rfl ?_
        exact k_
      obtain ⟨T39, X39, e39, st39⟩ := getF X30 hx hZ hown (host := "") (Or.inl (own_w hw 26 rfl)) Via.refl e30 Fl (g := (mkF m 26 #[vr a1, vr a2, vi (0 : Int32), vr a2, vi (3 : Int32), vi (1 : Int32), vi k1] [(.ref a1), (.int (0 : Int32))])) rfl rfl (hb hby d6_26)
      have go40 : Go p e below s₁ F0 T39 (mkF m 29 #[vr a1, vr a2, vi (0 : Int32), vr a2, vi (3 : Int32), vi (1 : Int32), vi k1] [(.ref w), (.int (0 : Int32))]) := fun t_ k_ => go38 t_ (st39 t_ k_)
      obtain ⟨cl41, Ar41, -, Sz41, Nn41, -, -⟩ := id VL
      have go42 : Go p e below s₁ F0 T39 (mkF m 34 #[vr a1, vr a2, vi (0 : Int32), vr a2, vi (3 : Int32), vi (1 : Int32), vi k1] [(.ref a1)]) := by
        intro t_ k_
        refine go40 t_ ?_
        refine o_len X39 hx hZ e39 Ar41 Sz41 Nn41 (hb hby d6_29) ?_
        refine o_icmpNo X39 hx (hb hby d6_30) (tlt (by decide : (0 : Int32) < (1 : Int32))).2.1 ?_
        refine o_aloadN X39 hx (hb hby d6_33) rfl rfl ?_
        exact k_
      obtain ⟨T43, X43, e43, st43⟩ := getF X39 hx hZ hown (host := "") (Or.inl (own_w hw 26 rfl)) Via.refl e39 Fl (g := (mkF m 34 #[vr a1, vr a2, vi (0 : Int32), vr a2, vi (3 : Int32), vi (1 : Int32), vi k1] [(.ref a1)])) rfl rfl (hb hby d6_34)
      have go44 : Go p e below s₁ F0 T43 (mkF m 37 #[vr a1, vr a2, vi (0 : Int32), vr a2, vi (3 : Int32), vi (1 : Int32), vi k1] [(.ref w)]) := fun t_ k_ => go42 t_ (st43 t_ k_)
      have go45 : Go p e below s₁ F0 T43 (mkF m 38 #[vr a1, vr a2, vi (0 : Int32), vr a2, vi (3 : Int32), vi (1 : Int32), vi k1] [(.int (0 : Int32)), (.ref w)]) := by
        intro t_ k_
        refine go44 t_ ?_
        refine o_iloadN X43 hx (hb hby d6_37) rfl ?_
        exact k_
      obtain ⟨cl46, Ar46, -, Sz46, Nn46, Hs46, -⟩ := id VL
      have hin46 : ¬ ((0 : Int32) < 0 ∨ cl46.slots.size ≤ ((0 : Int32)).toNatClampNeg) := inb_of Sz46 ⟨by decide, by decide⟩
      have hat46 : cl46.slots[((0 : Int32)).toNatClampNeg]? = some (.int l0) := Hs46.at hin46 rfl
      have go48 : Go p e below s₁ F0 T43 (mkF m 41 #[vr a1, vr a2, vi (0 : Int32), vr a2, vi (3 : Int32), vi (1 : Int32), vi k1] [(.int k1), (.int l0)]) := by
        intro t_ k_
        refine go45 t_ ?_
        refine o_iaload X43 hx hZ e43 Ar46 hin46 hat46 (hb hby d6_38) ?_
        refine o_iload X43 hx (hb hby d6_39) rfl ?_
        exact k_
      have hd47 : l0 < k1 := (by rw [hc67_35]; exact s0)
      have go49 : Go p e below s₁ F0 T43 (mkF m 26 #[vr a1, vr a2, vi (1 : Int32), vr a2, vi (3 : Int32), vi (1 : Int32), vi k1] [(.ref a1), (.int (1 : Int32))]) := by
        intro t_ k_
        refine go48 t_ ?_
        refine o_icmpNo X43 hx (hb hby d6_41) (tlt hd47).2.1 ?_
        refine o_iinc X43 hx (hb hby d6_44) rfl (L' := #[vr a1, vr a2, vi (1 : Int32), vr a2, vi (3 : Int32), vi (1 : Int32), vi k1]) rfl ?_
        refine o_goto X43 hx (hb hby d6_47) (pc' := 24) rfl (by decide) ?_
        refine o_iloadN X43 hx (hb hby d6_24) rfl ?_
        refine o_aloadN X43 hx (hb hby d6_25) rfl rfl ?_
        exact k_
      obtain ⟨T50, X50, e50, st50⟩ := getF X43 hx hZ hown (host := "") (Or.inl (own_w hw 26 rfl)) Via.refl e43 Fl (g := (mkF m 26 #[vr a1, vr a2, vi (1 : Int32), vr a2, vi (3 : Int32), vi (1 : Int32), vi k1] [(.ref a1), (.int (1 : Int32))])) rfl rfl (hb hby d6_26)
      have go51 : Go p e below s₁ F0 T50 (mkF m 29 #[vr a1, vr a2, vi (1 : Int32), vr a2, vi (3 : Int32), vi (1 : Int32), vi k1] [(.ref w), (.int (1 : Int32))]) := fun t_ k_ => go49 t_ (st50 t_ k_)
      obtain ⟨cl52, Ar52, -, Sz52, Nn52, -, -⟩ := id VL
      have go53 : Go p e below s₁ F0 T50 (mkF m 52 #[vr a1, vr a2, vi (1 : Int32), vr a2, vi (3 : Int32), vi (1 : Int32), vi k1] [(.ref a1), (.int (1 : Int32))]) := by
        intro t_ k_
        refine go51 t_ ?_
        refine o_len X50 hx hZ e50 Ar52 Sz52 Nn52 (hb hby d6_29) ?_
        refine o_icmpYes X50 hx (hb hby d6_30) (pc' := 50) rfl (by decide) (flt (by decide : ¬ ((1 : Int32) < (1 : Int32)))).2.1 ?_
        refine o_iloadN X50 hx (hb hby d6_50) rfl ?_
        refine o_aloadN X50 hx (hb hby d6_51) rfl rfl ?_
        exact k_
      obtain ⟨T54, X54, e54, st54⟩ := getF X50 hx hZ hown (host := "") (Or.inl (own_w hw 26 rfl)) Via.refl e50 Fl (g := (mkF m 52 #[vr a1, vr a2, vi (1 : Int32), vr a2, vi (3 : Int32), vi (1 : Int32), vi k1] [(.ref a1), (.int (1 : Int32))])) rfl rfl (hb hby d6_52)
      have go55 : Go p e below s₁ F0 T54 (mkF m 55 #[vr a1, vr a2, vi (1 : Int32), vr a2, vi (3 : Int32), vi (1 : Int32), vi k1] [(.ref w), (.int (1 : Int32))]) := fun t_ k_ => go53 t_ (st54 t_ k_)
      obtain ⟨cl56, Ar56, -, Sz56, Nn56, -, -⟩ := id VL
      have go57 : Go p e below s₁ F0 T54 (mkF m 71 #[vr a1, vr a2, vi (1 : Int32), vr a2, vi (3 : Int32), vi (1 : Int32), vi k1] [(.int (0 : Int32))]) := by
        intro t_ k_
        refine go55 t_ ?_
        refine o_len X54 hx hZ e54 Ar56 Sz56 Nn56 (hb hby d6_55) ?_
        refine o_icmpYes X54 hx (hb hby d6_56) (pc' := 70) rfl (by decide) (teq (by decide : (1 : Int32) = (1 : Int32))).1 ?_
        refine o_iconst X54 hx (hb hby d6_70) (v := 0) rfl ?_
        exact k_
      obtain ⟨fs, hr, hrun, hended, hW, hsame⟩ := X54.leave (v := some (.int (0 : Int32))) (fun h => by rw [Bd.returns] at h; cases h)
      refine ⟨_, _, pre0 _ (go57 _ ?_), hrun, hended, _, _, rfl, ?_, ⟨_, rfl⟩, hW, hsame.mono (by decide) (by decide)⟩
      · skip
        exact retN X54 hx (t := .boolean) Bd.returns (by simp) (hb hby d6_71) hr
      · show Q6_1_3 Z a1 a2 w kw kn l0 k0 k1 k2 h0 n0 _ T54.heap _
        rw [e54]
        exact ⟨(congrArg (fun z => some (Value.int z)) (show (0 : Int32) = f6_1_3 l0 k0 k1 k2 from by unfold f6_1_3; rw [if_neg hc41_15, if_pos hc67_35])), N0, rfl⟩
    · skip
      have go58 : Go p e below s₁ F0 T30 (mkF m 71 #[vr a1, vr a2, vi (0 : Int32), vr a2, vi (3 : Int32), vi (0 : Int32), vi k0] [(.int (0 : Int32))]) := by
        intro t_ k_
        refine go34 t_ ?_
        refine o_icmpNo X30 hx (hb hby d6_67) (feq hc67_35).1 ?_
        refine o_iconst X30 hx (hb hby d6_70) (v := 0) rfl ?_
        exact k_
      obtain ⟨fs, hr, hrun, hended, hW, hsame⟩ := X30.leave (v := some (.int (0 : Int32))) (fun h => by rw [Bd.returns] at h; cases h)
      refine ⟨_, _, pre0 _ (go58 _ ?_), hrun, hended, _, _, rfl, ?_, ⟨_, rfl⟩, hW, hsame.mono (by decide) (by decide)⟩
      · skip
        exact retN X30 hx (t := .boolean) Bd.returns (by simp) (hb hby d6_71) hr
      · show Q6_1_3 Z a1 a2 w kw kn l0 k0 k1 k2 h0 n0 _ T30.heap _
        rw [e30]
        exact ⟨(congrArg (fun z => some (Value.int z)) (show (0 : Int32) = f6_1_3 l0 k0 k1 k2 from by unfold f6_1_3; rw [if_neg hc41_15, if_neg hc67_35])), N0, rfl⟩

theorem pn_6_2_0 : plainName "com/example/slackline/slackline/workload/Farm$Machine" = true := by first | (simp [plainName, overriddenIn]; done) | decide +kernel
theorem ef_6_2_0 (m : MethodId) (x0 : Addr) (x1 : Addr) : entryFrame m #[(.ref x0), (.ref x1)] 7 = mkF m 0 #[vr x0, vr x1, .unset, .unset, .unset, .unset, .unset] [] := by first | (simp [entryFrame, mkF, argsToLocals, Value.category]; done) | rfl
def f6_2_0 (l0 : Int32) (l1 : Int32) : Int32 := (1 : Int32)
def Q6_2_0 (Z : State) (a1 : Addr) (a2 : Addr) (w : Addr) (kw : ClassId) (kn : ClassId) (l0 : Int32) (l1 : Int32) (h0 : Heap) (n0 : Nat) (v : Option Value) (h : Heap) (L : List Loc) : Prop := v = some (.int (f6_2_0 l0 l1)) ∧ Fr n0 L ∧ h = h0
set_option maxRecDepth 65536 in
set_option maxHeartbeats 40000000 in
theorem rm6_2_0 (l : Launch) (Z : State) (a0 : Array Value) (hw : ∀ d ∈ tables_1, d.before a0 Z = true) (ws : List Jvm.Cond) (a1 : Addr) (a2 : Addr) (w : Addr) (kw : ClassId) (kn : ClassId) (l0 : Int32) (l1 : Int32) (h0 : Heap) (n0 : Nat) (Z0 : n0 ≤ h0.size) (Fl : Fld Z h0 a1 c_0 "licences" "[I" (.ref w)) (VL : Arv Z h0 w kw .int (2 : Int32) [(.int l0), (.int l1)] (.int (0 : Int32))) (VN : Arv Z h0 a2 kn .int (0 : Int32) [] (.int (0 : Int32))) :
    MetFree l y_4 (head1 (Jvm.Cond.code y_4 prog_150_method_2_code 7 (some .boolean) :: ws) ({ frames := 0, cells := 0, slots := 0, locals := 0 } : Room)) (fun a U => a = #[(.ref a1), (.ref a2)] ∧ Z.Warmed39 U.vm ∧ U.heap = h0) (fun _ _ _ _ _ => True) (fun _ U o U' => ∃ v L, o = .returned v ∧ Q6_2_0 Z a1 a2 w kw kn l0 l1 h0 n0 v U'.heap L ∧ FrameEnd U o U' L ({ frames := 0, cells := 0, slots := 0, locals := 0 } : Room).cells ({ frames := 0, cells := 0, slots := 0, locals := 0 } : Room).slots) := by
  refine MetFree.of_bodySF (plainFor_of_name pn_6_2_0) hisR ?_
  intro p e s m args below meth c s₁ Bd hml0 hP hK
  obtain ⟨rfl, hZ, hh⟩ := hP
  have hx := Bd.exec
  have hby := Bd.bytes
  have hml : c.maxLocals = 7 := hml0
  have hown : s.vm.findClass "com/example/slackline/slackline/workload/Farm$Machine" = some m.cls := findClass_of_methodNamed Bd.named
  have hnm := (name_of_methodNamed Bd.named Bd.method).1
  have X0 : Stand p l e ({ frames := 0, cells := 0, slots := 0, locals := 0 } : Room) s m #[(.ref a1), (.ref a2)] below meth c s₁ [] 0 0 := Stand.of_body Bd
  have e0 : s₁.heap = h0 := by rw [← hh, Bd.state]; rfl
  have N0 := Fr.nil n0
  obtain ⟨F0, hF0⟩ : ∃ F : JFrame, F = entryFrame m #[(.ref a1), (.ref a2)] 7 := ⟨_, rfl⟩
  have pre0 : ∀ t, Steps p.tables e below (s₁.setTop F0) t → Steps p.tables e below (s₁.setTop (entryFrame m #[(.ref a1), (.ref a2)] 7)) t := fun t k => hF0 ▸ k
  have go0 : Go p e below s₁ F0 s₁ (mkF m 0 #[vr a1, vr a2, .unset, .unset, .unset, .unset, .unset] []) := fun t k => castTop (hF0.trans (ef_6_2_0 m a1 a2)) k
  have go1 : Go p e below s₁ F0 s₁ (mkF m 5 #[vr a1, vr a2, vi (0 : Int32), vr a2, .unset, .unset, .unset] [(.ref a2)]) := by
    intro t_ k_
    refine go0 t_ ?_
    refine o_iconst X0 hx (hb hby d6_0) (v := 0) rfl ?_
    refine o_istoreN X0 hx (hb hby d6_1) (L' := #[vr a1, vr a2, vi (0 : Int32), .unset, .unset, .unset, .unset]) rfl ?_
    refine o_aloadN X0 hx (hb hby d6_2) rfl rfl ?_
    refine o_astoreN X0 hx (hb hby d6_3) rfl (L' := #[vr a1, vr a2, vi (0 : Int32), vr a2, .unset, .unset, .unset]) rfl ?_
    refine o_aloadN X0 hx (hb hby d6_4) rfl rfl ?_
    exact k_
  obtain ⟨cl2, Ar2, -, Sz2, Nn2, -, -⟩ := id VN
  have go3 : Go p e below s₁ F0 s₁ (mkF m 79 #[vr a1, vr a2, vi (0 : Int32), vr a2, vi (0 : Int32), vi (0 : Int32), .unset] [(.int (1 : Int32))]) := by
    intro t_ k_
    refine go1 t_ ?_
    refine o_len X0 hx hZ e0 Ar2 Sz2 Nn2 (hb hby d6_5) ?_
    refine o_istore X0 hx (hb hby d6_6) (L' := #[vr a1, vr a2, vi (0 : Int32), vr a2, vi (0 : Int32), .unset, .unset]) rfl ?_
    refine o_iconst X0 hx (hb hby d6_8) (v := 0) rfl ?_
    refine o_istore X0 hx (hb hby d6_9) (L' := #[vr a1, vr a2, vi (0 : Int32), vr a2, vi (0 : Int32), vi (0 : Int32), .unset]) rfl ?_
    refine o_iload X0 hx (hb hby d6_11) rfl ?_
    refine o_iload X0 hx (hb hby d6_13) rfl ?_
    refine o_icmpYes X0 hx (hb hby d6_15) (pc' := 78) rfl (by decide) (flt (by decide : ¬ ((0 : Int32) < (0 : Int32)))).2.1 ?_
    refine o_iconst X0 hx (hb hby d6_78) (v := 1) rfl ?_
    exact k_
  obtain ⟨fs, hr, hrun, hended, hW, hsame⟩ := X0.leave (v := some (.int (1 : Int32))) (fun h => by rw [Bd.returns] at h; cases h)
  refine ⟨_, _, pre0 _ (go3 _ ?_), hrun, hended, _, _, rfl, ?_, ⟨_, rfl⟩, hW, hsame.mono (by decide) (by decide)⟩
  · skip
    exact retN X0 hx (t := .boolean) Bd.returns (by simp) (hb hby d6_79) hr
  · show Q6_2_0 Z a1 a2 w kw kn l0 l1 h0 n0 _ s₁.heap _
    rw [e0]
    exact ⟨(congrArg (fun z => some (Value.int z)) (show (1 : Int32) = f6_2_0 l0 l1 from by unfold f6_2_0; rfl)), N0, rfl⟩

theorem pn_6_2_1 : plainName "com/example/slackline/slackline/workload/Farm$Machine" = true := by first | (simp [plainName, overriddenIn]; done) | decide +kernel
theorem ef_6_2_1 (m : MethodId) (x0 : Addr) (x1 : Addr) : entryFrame m #[(.ref x0), (.ref x1)] 7 = mkF m 0 #[vr x0, vr x1, .unset, .unset, .unset, .unset, .unset] [] := by first | (simp [entryFrame, mkF, argsToLocals, Value.category]; done) | rfl
def f6_2_1 (l0 : Int32) (l1 : Int32) (k0 : Int32) : Int32 := (if l0 < k0 then (if l1 < k0 then (0 : Int32) else (if l1 = k0 then (1 : Int32) else (0 : Int32))) else (if l0 = k0 then (1 : Int32) else (0 : Int32)))
def Q6_2_1 (Z : State) (a1 : Addr) (a2 : Addr) (w : Addr) (kw : ClassId) (kn : ClassId) (l0 : Int32) (l1 : Int32) (k0 : Int32) (h0 : Heap) (n0 : Nat) (v : Option Value) (h : Heap) (L : List Loc) : Prop := v = some (.int (f6_2_1 l0 l1 k0)) ∧ Fr n0 L ∧ h = h0
set_option maxRecDepth 65536 in
set_option maxHeartbeats 40000000 in
theorem rm6_2_1 (l : Launch) (Z : State) (a0 : Array Value) (hw : ∀ d ∈ tables_1, d.before a0 Z = true) (ws : List Jvm.Cond) (a1 : Addr) (a2 : Addr) (w : Addr) (kw : ClassId) (kn : ClassId) (l0 : Int32) (l1 : Int32) (k0 : Int32) (h0 : Heap) (n0 : Nat) (Z0 : n0 ≤ h0.size) (Fl : Fld Z h0 a1 c_0 "licences" "[I" (.ref w)) (VL : Arv Z h0 w kw .int (2 : Int32) [(.int l0), (.int l1)] (.int (0 : Int32))) (VN : Arv Z h0 a2 kn .int (1 : Int32) [(.int k0)] (.int (0 : Int32))) :
    MetFree l y_4 (head1 (Jvm.Cond.code y_4 prog_150_method_2_code 7 (some .boolean) :: ws) ({ frames := 0, cells := 0, slots := 0, locals := 0 } : Room)) (fun a U => a = #[(.ref a1), (.ref a2)] ∧ Z.Warmed39 U.vm ∧ U.heap = h0) (fun _ _ _ _ _ => True) (fun _ U o U' => ∃ v L, o = .returned v ∧ Q6_2_1 Z a1 a2 w kw kn l0 l1 k0 h0 n0 v U'.heap L ∧ FrameEnd U o U' L ({ frames := 0, cells := 0, slots := 0, locals := 0 } : Room).cells ({ frames := 0, cells := 0, slots := 0, locals := 0 } : Room).slots) := by
  refine MetFree.of_bodySF (plainFor_of_name pn_6_2_1) hisR ?_
  intro p e s m args below meth c s₁ Bd hml0 hP hK
  obtain ⟨rfl, hZ, hh⟩ := hP
  have hx := Bd.exec
  have hby := Bd.bytes
  have hml : c.maxLocals = 7 := hml0
  have hown : s.vm.findClass "com/example/slackline/slackline/workload/Farm$Machine" = some m.cls := findClass_of_methodNamed Bd.named
  have hnm := (name_of_methodNamed Bd.named Bd.method).1
  have X0 : Stand p l e ({ frames := 0, cells := 0, slots := 0, locals := 0 } : Room) s m #[(.ref a1), (.ref a2)] below meth c s₁ [] 0 0 := Stand.of_body Bd
  have e0 : s₁.heap = h0 := by rw [← hh, Bd.state]; rfl
  have N0 := Fr.nil n0
  obtain ⟨F0, hF0⟩ : ∃ F : JFrame, F = entryFrame m #[(.ref a1), (.ref a2)] 7 := ⟨_, rfl⟩
  have pre0 : ∀ t, Steps p.tables e below (s₁.setTop F0) t → Steps p.tables e below (s₁.setTop (entryFrame m #[(.ref a1), (.ref a2)] 7)) t := fun t k => hF0 ▸ k
  have go0 : Go p e below s₁ F0 s₁ (mkF m 0 #[vr a1, vr a2, .unset, .unset, .unset, .unset, .unset] []) := fun t k => castTop (hF0.trans (ef_6_2_1 m a1 a2)) k
  have go1 : Go p e below s₁ F0 s₁ (mkF m 5 #[vr a1, vr a2, vi (0 : Int32), vr a2, .unset, .unset, .unset] [(.ref a2)]) := by
    intro t_ k_
    refine go0 t_ ?_
    refine o_iconst X0 hx (hb hby d6_0) (v := 0) rfl ?_
    refine o_istoreN X0 hx (hb hby d6_1) (L' := #[vr a1, vr a2, vi (0 : Int32), .unset, .unset, .unset, .unset]) rfl ?_
    refine o_aloadN X0 hx (hb hby d6_2) rfl rfl ?_
    refine o_astoreN X0 hx (hb hby d6_3) rfl (L' := #[vr a1, vr a2, vi (0 : Int32), vr a2, .unset, .unset, .unset]) rfl ?_
    refine o_aloadN X0 hx (hb hby d6_4) rfl rfl ?_
    exact k_
  obtain ⟨cl2, Ar2, -, Sz2, Nn2, -, -⟩ := id VN
  have go3 : Go p e below s₁ F0 s₁ (mkF m 21 #[vr a1, vr a2, vi (0 : Int32), vr a2, vi (1 : Int32), vi (0 : Int32), .unset] [(.int (0 : Int32)), (.ref a2)]) := by
    intro t_ k_
    refine go1 t_ ?_
    refine o_len X0 hx hZ e0 Ar2 Sz2 Nn2 (hb hby d6_5) ?_
    refine o_istore X0 hx (hb hby d6_6) (L' := #[vr a1, vr a2, vi (0 : Int32), vr a2, vi (1 : Int32), .unset, .unset]) rfl ?_
    refine o_iconst X0 hx (hb hby d6_8) (v := 0) rfl ?_
    refine o_istore X0 hx (hb hby d6_9) (L' := #[vr a1, vr a2, vi (0 : Int32), vr a2, vi (1 : Int32), vi (0 : Int32), .unset]) rfl ?_
    refine o_iload X0 hx (hb hby d6_11) rfl ?_
    refine o_iload X0 hx (hb hby d6_13) rfl ?_
    refine o_icmpNo X0 hx (hb hby d6_15) (tlt (by decide : (0 : Int32) < (1 : Int32))).2.1 ?_
    refine o_aloadN X0 hx (hb hby d6_18) rfl rfl ?_
    refine o_iload X0 hx (hb hby d6_19) rfl ?_
    exact k_
  obtain ⟨cl4, Ar4, -, Sz4, Nn4, Hs4, -⟩ := id VN
  have hin4 : ¬ ((0 : Int32) < 0 ∨ cl4.slots.size ≤ ((0 : Int32)).toNatClampNeg) := inb_of Sz4 ⟨by decide, by decide⟩
  have hat4 : cl4.slots[((0 : Int32)).toNatClampNeg]? = some (.int k0) := Hs4.at hin4 rfl
  have go5 : Go p e below s₁ F0 s₁ (mkF m 26 #[vr a1, vr a2, vi (0 : Int32), vr a2, vi (1 : Int32), vi (0 : Int32), vi k0] [(.ref a1), (.int (0 : Int32))]) := by
    intro t_ k_
    refine go3 t_ ?_
    refine o_iaload X0 hx hZ e0 Ar4 hin4 hat4 (hb hby d6_21) ?_
    refine o_istore X0 hx (hb hby d6_22) (L' := #[vr a1, vr a2, vi (0 : Int32), vr a2, vi (1 : Int32), vi (0 : Int32), vi k0]) rfl ?_
    refine o_iloadN X0 hx (hb hby d6_24) rfl ?_
    refine o_aloadN X0 hx (hb hby d6_25) rfl rfl ?_
    exact k_
  obtain ⟨T6, X6, e6, st6⟩ := getF X0 hx hZ hown (host := "") (Or.inl (own_w hw 26 rfl)) Via.refl e0 Fl (g := (mkF m 26 #[vr a1, vr a2, vi (0 : Int32), vr a2, vi (1 : Int32), vi (0 : Int32), vi k0] [(.ref a1), (.int (0 : Int32))])) rfl rfl (hb hby d6_26)
  have go7 : Go p e below s₁ F0 T6 (mkF m 29 #[vr a1, vr a2, vi (0 : Int32), vr a2, vi (1 : Int32), vi (0 : Int32), vi k0] [(.ref w), (.int (0 : Int32))]) := fun t_ k_ => go5 t_ (st6 t_ k_)
  obtain ⟨cl8, Ar8, -, Sz8, Nn8, -, -⟩ := id VL
  have go9 : Go p e below s₁ F0 T6 (mkF m 34 #[vr a1, vr a2, vi (0 : Int32), vr a2, vi (1 : Int32), vi (0 : Int32), vi k0] [(.ref a1)]) := by
    intro t_ k_
    refine go7 t_ ?_
    refine o_len X6 hx hZ e6 Ar8 Sz8 Nn8 (hb hby d6_29) ?_
    refine o_icmpNo X6 hx (hb hby d6_30) (tlt (by decide : (0 : Int32) < (2 : Int32))).2.1 ?_
    refine o_aloadN X6 hx (hb hby d6_33) rfl rfl ?_
    exact k_
  obtain ⟨T10, X10, e10, st10⟩ := getF X6 hx hZ hown (host := "") (Or.inl (own_w hw 26 rfl)) Via.refl e6 Fl (g := (mkF m 34 #[vr a1, vr a2, vi (0 : Int32), vr a2, vi (1 : Int32), vi (0 : Int32), vi k0] [(.ref a1)])) rfl rfl (hb hby d6_34)
  have go11 : Go p e below s₁ F0 T10 (mkF m 37 #[vr a1, vr a2, vi (0 : Int32), vr a2, vi (1 : Int32), vi (0 : Int32), vi k0] [(.ref w)]) := fun t_ k_ => go9 t_ (st10 t_ k_)
  have go12 : Go p e below s₁ F0 T10 (mkF m 38 #[vr a1, vr a2, vi (0 : Int32), vr a2, vi (1 : Int32), vi (0 : Int32), vi k0] [(.int (0 : Int32)), (.ref w)]) := by
    intro t_ k_
    refine go11 t_ ?_
    refine o_iloadN X10 hx (hb hby d6_37) rfl ?_
    exact k_
  obtain ⟨cl13, Ar13, -, Sz13, Nn13, Hs13, -⟩ := id VL
  have hin13 : ¬ ((0 : Int32) < 0 ∨ cl13.slots.size ≤ ((0 : Int32)).toNatClampNeg) := inb_of Sz13 ⟨by decide, by decide⟩
  have hat13 : cl13.slots[((0 : Int32)).toNatClampNeg]? = some (.int l0) := Hs13.at hin13 rfl
  have go14 : Go p e below s₁ F0 T10 (mkF m 41 #[vr a1, vr a2, vi (0 : Int32), vr a2, vi (1 : Int32), vi (0 : Int32), vi k0] [(.int k0), (.int l0)]) := by
    intro t_ k_
    refine go12 t_ ?_
    refine o_iaload X10 hx hZ e10 Ar13 hin13 hat13 (hb hby d6_38) ?_
    refine o_iload X10 hx (hb hby d6_39) rfl ?_
    exact k_
  by_cases hc41_15 : l0 < k0
  · skip
    have go16 : Go p e below s₁ F0 T10 (mkF m 26 #[vr a1, vr a2, vi (1 : Int32), vr a2, vi (1 : Int32), vi (0 : Int32), vi k0] [(.ref a1), (.int (1 : Int32))]) := by
      intro t_ k_
      refine go14 t_ ?_
      refine o_icmpNo X10 hx (hb hby d6_41) (tlt hc41_15).2.1 ?_
      refine o_iinc X10 hx (hb hby d6_44) rfl (L' := #[vr a1, vr a2, vi (1 : Int32), vr a2, vi (1 : Int32), vi (0 : Int32), vi k0]) rfl ?_
      refine o_goto X10 hx (hb hby d6_47) (pc' := 24) rfl (by decide) ?_
      refine o_iloadN X10 hx (hb hby d6_24) rfl ?_
      refine o_aloadN X10 hx (hb hby d6_25) rfl rfl ?_
      exact k_
    obtain ⟨T17, X17, e17, st17⟩ := getF X10 hx hZ hown (host := "") (Or.inl (own_w hw 26 rfl)) Via.refl e10 Fl (g := (mkF m 26 #[vr a1, vr a2, vi (1 : Int32), vr a2, vi (1 : Int32), vi (0 : Int32), vi k0] [(.ref a1), (.int (1 : Int32))])) rfl rfl (hb hby d6_26)
    have go18 : Go p e below s₁ F0 T17 (mkF m 29 #[vr a1, vr a2, vi (1 : Int32), vr a2, vi (1 : Int32), vi (0 : Int32), vi k0] [(.ref w), (.int (1 : Int32))]) := fun t_ k_ => go16 t_ (st17 t_ k_)
    obtain ⟨cl19, Ar19, -, Sz19, Nn19, -, -⟩ := id VL
    have go20 : Go p e below s₁ F0 T17 (mkF m 34 #[vr a1, vr a2, vi (1 : Int32), vr a2, vi (1 : Int32), vi (0 : Int32), vi k0] [(.ref a1)]) := by
      intro t_ k_
      refine go18 t_ ?_
      refine o_len X17 hx hZ e17 Ar19 Sz19 Nn19 (hb hby d6_29) ?_
      refine o_icmpNo X17 hx (hb hby d6_30) (tlt (by decide : (1 : Int32) < (2 : Int32))).2.1 ?_
      refine o_aloadN X17 hx (hb hby d6_33) rfl rfl ?_
      exact k_
    obtain ⟨T21, X21, e21, st21⟩ := getF X17 hx hZ hown (host := "") (Or.inl (own_w hw 26 rfl)) Via.refl e17 Fl (g := (mkF m 34 #[vr a1, vr a2, vi (1 : Int32), vr a2, vi (1 : Int32), vi (0 : Int32), vi k0] [(.ref a1)])) rfl rfl (hb hby d6_34)
    have go22 : Go p e below s₁ F0 T21 (mkF m 37 #[vr a1, vr a2, vi (1 : Int32), vr a2, vi (1 : Int32), vi (0 : Int32), vi k0] [(.ref w)]) := fun t_ k_ => go20 t_ (st21 t_ k_)
    have go23 : Go p e below s₁ F0 T21 (mkF m 38 #[vr a1, vr a2, vi (1 : Int32), vr a2, vi (1 : Int32), vi (0 : Int32), vi k0] [(.int (1 : Int32)), (.ref w)]) := by
      intro t_ k_
      refine go22 t_ ?_
      refine o_iloadN X21 hx (hb hby d6_37) rfl ?_
      exact k_
    obtain ⟨cl24, Ar24, -, Sz24, Nn24, Hs24, -⟩ := id VL
    have hin24 : ¬ ((1 : Int32) < 0 ∨ cl24.slots.size ≤ ((1 : Int32)).toNatClampNeg) := inb_of Sz24 ⟨by decide, by decide⟩
    have hat24 : cl24.slots[((1 : Int32)).toNatClampNeg]? = some (.int l1) := Hs24.at hin24 rfl
    have go25 : Go p e below s₁ F0 T21 (mkF m 41 #[vr a1, vr a2, vi (1 : Int32), vr a2, vi (1 : Int32), vi (0 : Int32), vi k0] [(.int k0), (.int l1)]) := by
      intro t_ k_
      refine go23 t_ ?_
      refine o_iaload X21 hx hZ e21 Ar24 hin24 hat24 (hb hby d6_38) ?_
      refine o_iload X21 hx (hb hby d6_39) rfl ?_
      exact k_
    by_cases hc41_26 : l1 < k0
    · skip
      have go27 : Go p e below s₁ F0 T21 (mkF m 26 #[vr a1, vr a2, vi (2 : Int32), vr a2, vi (1 : Int32), vi (0 : Int32), vi k0] [(.ref a1), (.int (2 : Int32))]) := by
        intro t_ k_
        refine go25 t_ ?_
        refine o_icmpNo X21 hx (hb hby d6_41) (tlt hc41_26).2.1 ?_
        refine o_iinc X21 hx (hb hby d6_44) rfl (L' := #[vr a1, vr a2, vi (2 : Int32), vr a2, vi (1 : Int32), vi (0 : Int32), vi k0]) rfl ?_
        refine o_goto X21 hx (hb hby d6_47) (pc' := 24) rfl (by decide) ?_
        refine o_iloadN X21 hx (hb hby d6_24) rfl ?_
        refine o_aloadN X21 hx (hb hby d6_25) rfl rfl ?_
        exact k_
      obtain ⟨T28, X28, e28, st28⟩ := getF X21 hx hZ hown (host := "") (Or.inl (own_w hw 26 rfl)) Via.refl e21 Fl (g := (mkF m 26 #[vr a1, vr a2, vi (2 : Int32), vr a2, vi (1 : Int32), vi (0 : Int32), vi k0] [(.ref a1), (.int (2 : Int32))])) rfl rfl (hb hby d6_26)
      have go29 : Go p e below s₁ F0 T28 (mkF m 29 #[vr a1, vr a2, vi (2 : Int32), vr a2, vi (1 : Int32), vi (0 : Int32), vi k0] [(.ref w), (.int (2 : Int32))]) := fun t_ k_ => go27 t_ (st28 t_ k_)
      obtain ⟨cl30, Ar30, -, Sz30, Nn30, -, -⟩ := id VL
      have go31 : Go p e below s₁ F0 T28 (mkF m 52 #[vr a1, vr a2, vi (2 : Int32), vr a2, vi (1 : Int32), vi (0 : Int32), vi k0] [(.ref a1), (.int (2 : Int32))]) := by
        intro t_ k_
        refine go29 t_ ?_
        refine o_len X28 hx hZ e28 Ar30 Sz30 Nn30 (hb hby d6_29) ?_
        refine o_icmpYes X28 hx (hb hby d6_30) (pc' := 50) rfl (by decide) (flt (by decide : ¬ ((2 : Int32) < (2 : Int32)))).2.1 ?_
        refine o_iloadN X28 hx (hb hby d6_50) rfl ?_
        refine o_aloadN X28 hx (hb hby d6_51) rfl rfl ?_
        exact k_
      obtain ⟨T32, X32, e32, st32⟩ := getF X28 hx hZ hown (host := "") (Or.inl (own_w hw 26 rfl)) Via.refl e28 Fl (g := (mkF m 52 #[vr a1, vr a2, vi (2 : Int32), vr a2, vi (1 : Int32), vi (0 : Int32), vi k0] [(.ref a1), (.int (2 : Int32))])) rfl rfl (hb hby d6_52)
      have go33 : Go p e below s₁ F0 T32 (mkF m 55 #[vr a1, vr a2, vi (2 : Int32), vr a2, vi (1 : Int32), vi (0 : Int32), vi k0] [(.ref w), (.int (2 : Int32))]) := fun t_ k_ => go31 t_ (st32 t_ k_)
      obtain ⟨cl34, Ar34, -, Sz34, Nn34, -, -⟩ := id VL
      have go35 : Go p e below s₁ F0 T32 (mkF m 71 #[vr a1, vr a2, vi (2 : Int32), vr a2, vi (1 : Int32), vi (0 : Int32), vi k0] [(.int (0 : Int32))]) := by
        intro t_ k_
        refine go33 t_ ?_
        refine o_len X32 hx hZ e32 Ar34 Sz34 Nn34 (hb hby d6_55) ?_
        refine o_icmpYes X32 hx (hb hby d6_56) (pc' := 70) rfl (by decide) (teq (by decide : (2 : Int32) = (2 : Int32))).1 ?_
        refine o_iconst X32 hx (hb hby d6_70) (v := 0) rfl ?_
        exact k_
      obtain ⟨fs, hr, hrun, hended, hW, hsame⟩ := X32.leave (v := some (.int (0 : Int32))) (fun h => by rw [Bd.returns] at h; cases h)
      refine ⟨_, _, pre0 _ (go35 _ ?_), hrun, hended, _, _, rfl, ?_, ⟨_, rfl⟩, hW, hsame.mono (by decide) (by decide)⟩
      · skip
        exact retN X32 hx (t := .boolean) Bd.returns (by simp) (hb hby d6_71) hr
      · show Q6_2_1 Z a1 a2 w kw kn l0 l1 k0 h0 n0 _ T32.heap _
        rw [e32]
        exact ⟨(congrArg (fun z => some (Value.int z)) (show (0 : Int32) = f6_2_1 l0 l1 k0 from by unfold f6_2_1; rw [if_pos hc41_15, if_pos hc41_26])), N0, rfl⟩
    · skip
      have go36 : Go p e below s₁ F0 T21 (mkF m 52 #[vr a1, vr a2, vi (1 : Int32), vr a2, vi (1 : Int32), vi (0 : Int32), vi k0] [(.ref a1), (.int (1 : Int32))]) := by
        intro t_ k_
        refine go25 t_ ?_
        refine o_icmpYes X21 hx (hb hby d6_41) (pc' := 50) rfl (by decide) (flt hc41_26).2.1 ?_
        refine o_iloadN X21 hx (hb hby d6_50) rfl ?_
        refine o_aloadN X21 hx (hb hby d6_51) rfl rfl ?_
        exact k_
      obtain ⟨T37, X37, e37, st37⟩ := getF X21 hx hZ hown (host := "") (Or.inl (own_w hw 26 rfl)) Via.refl e21 Fl (g := (mkF m 52 #[vr a1, vr a2, vi (1 : Int32), vr a2, vi (1 : Int32), vi (0 : Int32), vi k0] [(.ref a1), (.int (1 : Int32))])) rfl rfl (hb hby d6_52)
      have go38 : Go p e below s₁ F0 T37 (mkF m 55 #[vr a1, vr a2, vi (1 : Int32), vr a2, vi (1 : Int32), vi (0 : Int32), vi k0] [(.ref w), (.int (1 : Int32))]) := fun t_ k_ => go36 t_ (st37 t_ k_)
      obtain ⟨cl39, Ar39, -, Sz39, Nn39, -, -⟩ := id VL
      have go40 : Go p e below s₁ F0 T37 (mkF m 60 #[vr a1, vr a2, vi (1 : Int32), vr a2, vi (1 : Int32), vi (0 : Int32), vi k0] [(.ref a1)]) := by
        intro t_ k_
        refine go38 t_ ?_
        refine o_len X37 hx hZ e37 Ar39 Sz39 Nn39 (hb hby d6_55) ?_
        refine o_icmpNo X37 hx (hb hby d6_56) (feq (by decide : ¬ ((1 : Int32) = (2 : Int32)))).1 ?_
        refine o_aloadN X37 hx (hb hby d6_59) rfl rfl ?_
        exact k_
      obtain ⟨T41, X41, e41, st41⟩ := getF X37 hx hZ hown (host := "") (Or.inl (own_w hw 26 rfl)) Via.refl e37 Fl (g := (mkF m 60 #[vr a1, vr a2, vi (1 : Int32), vr a2, vi (1 : Int32), vi (0 : Int32), vi k0] [(.ref a1)])) rfl rfl (hb hby d6_60)
      have go42 : Go p e below s₁ F0 T41 (mkF m 63 #[vr a1, vr a2, vi (1 : Int32), vr a2, vi (1 : Int32), vi (0 : Int32), vi k0] [(.ref w)]) := fun t_ k_ => go40 t_ (st41 t_ k_)
      have go43 : Go p e below s₁ F0 T41 (mkF m 64 #[vr a1, vr a2, vi (1 : Int32), vr a2, vi (1 : Int32), vi (0 : Int32), vi k0] [(.int (1 : Int32)), (.ref w)]) := by
        intro t_ k_
        refine go42 t_ ?_
        refine o_iloadN X41 hx (hb hby d6_63) rfl ?_
        exact k_
      obtain ⟨cl44, Ar44, -, Sz44, Nn44, Hs44, -⟩ := id VL
      have hin44 : ¬ ((1 : Int32) < 0 ∨ cl44.slots.size ≤ ((1 : Int32)).toNatClampNeg) := inb_of Sz44 ⟨by decide, by decide⟩
      have hat44 : cl44.slots[((1 : Int32)).toNatClampNeg]? = some (.int l1) := Hs44.at hin44 rfl
      have go45 : Go p e below s₁ F0 T41 (mkF m 67 #[vr a1, vr a2, vi (1 : Int32), vr a2, vi (1 : Int32), vi (0 : Int32), vi k0] [(.int k0), (.int l1)]) := by
        intro t_ k_
        refine go43 t_ ?_
        refine o_iaload X41 hx hZ e41 Ar44 hin44 hat44 (hb hby d6_64) ?_
        refine o_iload X41 hx (hb hby d6_65) rfl ?_
        exact k_
      by_cases hc67_46 : l1 = k0
      · skip
        have go47 : Go p e below s₁ F0 T41 (mkF m 79 #[vr a1, vr a2, vi (1 : Int32), vr a2, vi (1 : Int32), vi (1 : Int32), vi k0] [(.int (1 : Int32))]) := by
          intro t_ k_
          refine go45 t_ ?_
          refine o_icmpYes X41 hx (hb hby d6_67) (pc' := 72) rfl (by decide) (teq hc67_46).1 ?_
          refine o_iinc X41 hx (hb hby d6_72) rfl (L' := #[vr a1, vr a2, vi (1 : Int32), vr a2, vi (1 : Int32), vi (1 : Int32), vi k0]) rfl ?_
          refine o_goto X41 hx (hb hby d6_75) (pc' := 11) rfl (by decide) ?_
          refine o_iload X41 hx (hb hby d6_11) rfl ?_
          refine o_iload X41 hx (hb hby d6_13) rfl ?_
          refine o_icmpYes X41 hx (hb hby d6_15) (pc' := 78) rfl (by decide) (flt (by decide : ¬ ((1 : Int32) < (1 : Int32)))).2.1 ?_
          refine o_iconst X41 hx (hb hby d6_78) (v := 1) rfl ?_
          exact k_
        obtain ⟨fs, hr, hrun, hended, hW, hsame⟩ := X41.leave (v := some (.int (1 : Int32))) (fun h => by rw [Bd.returns] at h; cases h)
        refine ⟨_, _, pre0 _ (go47 _ ?_), hrun, hended, _, _, rfl, ?_, ⟨_, rfl⟩, hW, hsame.mono (by decide) (by decide)⟩
        · skip
          exact retN X41 hx (t := .boolean) Bd.returns (by simp) (hb hby d6_79) hr
        · show Q6_2_1 Z a1 a2 w kw kn l0 l1 k0 h0 n0 _ T41.heap _
          rw [e41]
          exact ⟨(congrArg (fun z => some (Value.int z)) (show (1 : Int32) = f6_2_1 l0 l1 k0 from by unfold f6_2_1; rw [if_pos hc41_15, if_neg hc41_26, if_pos hc67_46])), N0, rfl⟩
      · skip
        have go48 : Go p e below s₁ F0 T41 (mkF m 71 #[vr a1, vr a2, vi (1 : Int32), vr a2, vi (1 : Int32), vi (0 : Int32), vi k0] [(.int (0 : Int32))]) := by
          intro t_ k_
          refine go45 t_ ?_
          refine o_icmpNo X41 hx (hb hby d6_67) (feq hc67_46).1 ?_
          refine o_iconst X41 hx (hb hby d6_70) (v := 0) rfl ?_
          exact k_
        obtain ⟨fs, hr, hrun, hended, hW, hsame⟩ := X41.leave (v := some (.int (0 : Int32))) (fun h => by rw [Bd.returns] at h; cases h)
        refine ⟨_, _, pre0 _ (go48 _ ?_), hrun, hended, _, _, rfl, ?_, ⟨_, rfl⟩, hW, hsame.mono (by decide) (by decide)⟩
        · skip
          exact retN X41 hx (t := .boolean) Bd.returns (by simp) (hb hby d6_71) hr
        · show Q6_2_1 Z a1 a2 w kw kn l0 l1 k0 h0 n0 _ T41.heap _
          rw [e41]
          exact ⟨(congrArg (fun z => some (Value.int z)) (show (0 : Int32) = f6_2_1 l0 l1 k0 from by unfold f6_2_1; rw [if_pos hc41_15, if_neg hc41_26, if_neg hc67_46])), N0, rfl⟩
  · skip
    have go49 : Go p e below s₁ F0 T10 (mkF m 52 #[vr a1, vr a2, vi (0 : Int32), vr a2, vi (1 : Int32), vi (0 : Int32), vi k0] [(.ref a1), (.int (0 : Int32))]) := by
      intro t_ k_
      refine go14 t_ ?_
      refine o_icmpYes X10 hx (hb hby d6_41) (pc' := 50) rfl (by decide) (flt hc41_15).2.1 ?_
      refine o_iloadN X10 hx (hb hby d6_50) rfl ?_
      refine o_aloadN X10 hx (hb hby d6_51) rfl rfl ?_
      exact k_
    obtain ⟨T50, X50, e50, st50⟩ := getF X10 hx hZ hown (host := "") (Or.inl (own_w hw 26 rfl)) Via.refl e10 Fl (g := (mkF m 52 #[vr a1, vr a2, vi (0 : Int32), vr a2, vi (1 : Int32), vi (0 : Int32), vi k0] [(.ref a1), (.int (0 : Int32))])) rfl rfl (hb hby d6_52)
    have go51 : Go p e below s₁ F0 T50 (mkF m 55 #[vr a1, vr a2, vi (0 : Int32), vr a2, vi (1 : Int32), vi (0 : Int32), vi k0] [(.ref w), (.int (0 : Int32))]) := fun t_ k_ => go49 t_ (st50 t_ k_)
    obtain ⟨cl52, Ar52, -, Sz52, Nn52, -, -⟩ := id VL
    have go53 : Go p e below s₁ F0 T50 (mkF m 60 #[vr a1, vr a2, vi (0 : Int32), vr a2, vi (1 : Int32), vi (0 : Int32), vi k0] [(.ref a1)]) := by
      intro t_ k_
      refine go51 t_ ?_
      refine o_len X50 hx hZ e50 Ar52 Sz52 Nn52 (hb hby d6_55) ?_
      refine o_icmpNo X50 hx (hb hby d6_56) (feq (by decide : ¬ ((0 : Int32) = (2 : Int32)))).1 ?_
      refine o_aloadN X50 hx (hb hby d6_59) rfl rfl ?_
      exact k_
    obtain ⟨T54, X54, e54, st54⟩ := getF X50 hx hZ hown (host := "") (Or.inl (own_w hw 26 rfl)) Via.refl e50 Fl (g := (mkF m 60 #[vr a1, vr a2, vi (0 : Int32), vr a2, vi (1 : Int32), vi (0 : Int32), vi k0] [(.ref a1)])) rfl rfl (hb hby d6_60)
    have go55 : Go p e below s₁ F0 T54 (mkF m 63 #[vr a1, vr a2, vi (0 : Int32), vr a2, vi (1 : Int32), vi (0 : Int32), vi k0] [(.ref w)]) := fun t_ k_ => go53 t_ (st54 t_ k_)
    have go56 : Go p e below s₁ F0 T54 (mkF m 64 #[vr a1, vr a2, vi (0 : Int32), vr a2, vi (1 : Int32), vi (0 : Int32), vi k0] [(.int (0 : Int32)), (.ref w)]) := by
      intro t_ k_
      refine go55 t_ ?_
      refine o_iloadN X54 hx (hb hby d6_63) rfl ?_
      exact k_
    obtain ⟨cl57, Ar57, -, Sz57, Nn57, Hs57, -⟩ := id VL
    have hin57 : ¬ ((0 : Int32) < 0 ∨ cl57.slots.size ≤ ((0 : Int32)).toNatClampNeg) := inb_of Sz57 ⟨by decide, by decide⟩
    have hat57 : cl57.slots[((0 : Int32)).toNatClampNeg]? = some (.int l0) := Hs57.at hin57 rfl
    have go58 : Go p e below s₁ F0 T54 (mkF m 67 #[vr a1, vr a2, vi (0 : Int32), vr a2, vi (1 : Int32), vi (0 : Int32), vi k0] [(.int k0), (.int l0)]) := by
      intro t_ k_
      refine go56 t_ ?_
      refine o_iaload X54 hx hZ e54 Ar57 hin57 hat57 (hb hby d6_64) ?_
      refine o_iload X54 hx (hb hby d6_65) rfl ?_
      exact k_
    by_cases hc67_59 : l0 = k0
    · skip
      have go60 : Go p e below s₁ F0 T54 (mkF m 79 #[vr a1, vr a2, vi (0 : Int32), vr a2, vi (1 : Int32), vi (1 : Int32), vi k0] [(.int (1 : Int32))]) := by
        intro t_ k_
        refine go58 t_ ?_
        refine o_icmpYes X54 hx (hb hby d6_67) (pc' := 72) rfl (by decide) (teq hc67_59).1 ?_
        refine o_iinc X54 hx (hb hby d6_72) rfl (L' := #[vr a1, vr a2, vi (0 : Int32), vr a2, vi (1 : Int32), vi (1 : Int32), vi k0]) rfl ?_
        refine o_goto X54 hx (hb hby d6_75) (pc' := 11) rfl (by decide) ?_
        refine o_iload X54 hx (hb hby d6_11) rfl ?_
        refine o_iload X54 hx (hb hby d6_13) rfl ?_
        refine o_icmpYes X54 hx (hb hby d6_15) (pc' := 78) rfl (by decide) (flt (by decide : ¬ ((1 : Int32) < (1 : Int32)))).2.1 ?_
        refine o_iconst X54 hx (hb hby d6_78) (v := 1) rfl ?_
        exact k_
      obtain ⟨fs, hr, hrun, hended, hW, hsame⟩ := X54.leave (v := some (.int (1 : Int32))) (fun h => by rw [Bd.returns] at h; cases h)
      refine ⟨_, _, pre0 _ (go60 _ ?_), hrun, hended, _, _, rfl, ?_, ⟨_, rfl⟩, hW, hsame.mono (by decide) (by decide)⟩
      · skip
        exact retN X54 hx (t := .boolean) Bd.returns (by simp) (hb hby d6_79) hr
      · show Q6_2_1 Z a1 a2 w kw kn l0 l1 k0 h0 n0 _ T54.heap _
        rw [e54]
        exact ⟨(congrArg (fun z => some (Value.int z)) (show (1 : Int32) = f6_2_1 l0 l1 k0 from by unfold f6_2_1; rw [if_neg hc41_15, if_pos hc67_59])), N0, rfl⟩
    · skip
      have go61 : Go p e below s₁ F0 T54 (mkF m 71 #[vr a1, vr a2, vi (0 : Int32), vr a2, vi (1 : Int32), vi (0 : Int32), vi k0] [(.int (0 : Int32))]) := by
        intro t_ k_
        refine go58 t_ ?_
        refine o_icmpNo X54 hx (hb hby d6_67) (feq hc67_59).1 ?_
        refine o_iconst X54 hx (hb hby d6_70) (v := 0) rfl ?_
        exact k_
      obtain ⟨fs, hr, hrun, hended, hW, hsame⟩ := X54.leave (v := some (.int (0 : Int32))) (fun h => by rw [Bd.returns] at h; cases h)
      refine ⟨_, _, pre0 _ (go61 _ ?_), hrun, hended, _, _, rfl, ?_, ⟨_, rfl⟩, hW, hsame.mono (by decide) (by decide)⟩
      · skip
        exact retN X54 hx (t := .boolean) Bd.returns (by simp) (hb hby d6_71) hr
      · show Q6_2_1 Z a1 a2 w kw kn l0 l1 k0 h0 n0 _ T54.heap _
        rw [e54]
        exact ⟨(congrArg (fun z => some (Value.int z)) (show (0 : Int32) = f6_2_1 l0 l1 k0 from by unfold f6_2_1; rw [if_neg hc41_15, if_neg hc67_59])), N0, rfl⟩

theorem pn_6_2_2 : plainName "com/example/slackline/slackline/workload/Farm$Machine" = true := by first | (simp [plainName, overriddenIn]; done) | decide +kernel
theorem ef_6_2_2 (m : MethodId) (x0 : Addr) (x1 : Addr) : entryFrame m #[(.ref x0), (.ref x1)] 7 = mkF m 0 #[vr x0, vr x1, .unset, .unset, .unset, .unset, .unset] [] := by first | (simp [entryFrame, mkF, argsToLocals, Value.category]; done) | rfl
def f6_2_2 (l0 : Int32) (l1 : Int32) (k0 : Int32) (k1 : Int32) : Int32 := (if l0 < k0 then (if l1 < k0 then (0 : Int32) else (if l1 = k0 then (0 : Int32) else (0 : Int32))) else (if l0 = k0 then (if l1 < k1 then (0 : Int32) else (if l1 = k1 then (1 : Int32) else (0 : Int32))) else (0 : Int32)))
def Q6_2_2 (Z : State) (a1 : Addr) (a2 : Addr) (w : Addr) (kw : ClassId) (kn : ClassId) (l0 : Int32) (l1 : Int32) (k0 : Int32) (k1 : Int32) (h0 : Heap) (n0 : Nat) (v : Option Value) (h : Heap) (L : List Loc) : Prop := v = some (.int (f6_2_2 l0 l1 k0 k1)) ∧ Fr n0 L ∧ h = h0
set_option maxRecDepth 65536 in
set_option maxHeartbeats 40000000 in
theorem rm6_2_2 (l : Launch) (Z : State) (a0 : Array Value) (hw : ∀ d ∈ tables_1, d.before a0 Z = true) (ws : List Jvm.Cond) (a1 : Addr) (a2 : Addr) (w : Addr) (kw : ClassId) (kn : ClassId) (l0 : Int32) (l1 : Int32) (k0 : Int32) (k1 : Int32) (h0 : Heap) (n0 : Nat) (Z0 : n0 ≤ h0.size) (Fl : Fld Z h0 a1 c_0 "licences" "[I" (.ref w)) (VL : Arv Z h0 w kw .int (2 : Int32) [(.int l0), (.int l1)] (.int (0 : Int32))) (VN : Arv Z h0 a2 kn .int (2 : Int32) [(.int k0), (.int k1)] (.int (0 : Int32))) (s0 : k0 < k1) :
    MetFree l y_4 (head1 (Jvm.Cond.code y_4 prog_150_method_2_code 7 (some .boolean) :: ws) ({ frames := 0, cells := 0, slots := 0, locals := 0 } : Room)) (fun a U => a = #[(.ref a1), (.ref a2)] ∧ Z.Warmed39 U.vm ∧ U.heap = h0) (fun _ _ _ _ _ => True) (fun _ U o U' => ∃ v L, o = .returned v ∧ Q6_2_2 Z a1 a2 w kw kn l0 l1 k0 k1 h0 n0 v U'.heap L ∧ FrameEnd U o U' L ({ frames := 0, cells := 0, slots := 0, locals := 0 } : Room).cells ({ frames := 0, cells := 0, slots := 0, locals := 0 } : Room).slots) := by
  refine MetFree.of_bodySF (plainFor_of_name pn_6_2_2) hisR ?_
  intro p e s m args below meth c s₁ Bd hml0 hP hK
  obtain ⟨rfl, hZ, hh⟩ := hP
  have hx := Bd.exec
  have hby := Bd.bytes
  have hml : c.maxLocals = 7 := hml0
  have hown : s.vm.findClass "com/example/slackline/slackline/workload/Farm$Machine" = some m.cls := findClass_of_methodNamed Bd.named
  have hnm := (name_of_methodNamed Bd.named Bd.method).1
  have X0 : Stand p l e ({ frames := 0, cells := 0, slots := 0, locals := 0 } : Room) s m #[(.ref a1), (.ref a2)] below meth c s₁ [] 0 0 := Stand.of_body Bd
  have e0 : s₁.heap = h0 := by rw [← hh, Bd.state]; rfl
  have N0 := Fr.nil n0
  obtain ⟨F0, hF0⟩ : ∃ F : JFrame, F = entryFrame m #[(.ref a1), (.ref a2)] 7 := ⟨_, rfl⟩
  have pre0 : ∀ t, Steps p.tables e below (s₁.setTop F0) t → Steps p.tables e below (s₁.setTop (entryFrame m #[(.ref a1), (.ref a2)] 7)) t := fun t k => hF0 ▸ k
  have go0 : Go p e below s₁ F0 s₁ (mkF m 0 #[vr a1, vr a2, .unset, .unset, .unset, .unset, .unset] []) := fun t k => castTop (hF0.trans (ef_6_2_2 m a1 a2)) k
  have go1 : Go p e below s₁ F0 s₁ (mkF m 5 #[vr a1, vr a2, vi (0 : Int32), vr a2, .unset, .unset, .unset] [(.ref a2)]) := by
    intro t_ k_
    refine go0 t_ ?_
    refine o_iconst X0 hx (hb hby d6_0) (v := 0) rfl ?_
    refine o_istoreN X0 hx (hb hby d6_1) (L' := #[vr a1, vr a2, vi (0 : Int32), .unset, .unset, .unset, .unset]) rfl ?_
    refine o_aloadN X0 hx (hb hby d6_2) rfl rfl ?_
    refine o_astoreN X0 hx (hb hby d6_3) rfl (L' := #[vr a1, vr a2, vi (0 : Int32), vr a2, .unset, .unset, .unset]) rfl ?_
    refine o_aloadN X0 hx (hb hby d6_4) rfl rfl ?_
    exact k_
  obtain ⟨cl2, Ar2, -, Sz2, Nn2, -, -⟩ := id VN
  have go3 : Go p e below s₁ F0 s₁ (mkF m 21 #[vr a1, vr a2, vi (0 : Int32), vr a2, vi (2 : Int32), vi (0 : Int32), .unset] [(.int (0 : Int32)), (.ref a2)]) := by
    intro t_ k_
    refine go1 t_ ?_
    refine o_len X0 hx hZ e0 Ar2 Sz2 Nn2 (hb hby d6_5) ?_
    refine o_istore X0 hx (hb hby d6_6) (L' := #[vr a1, vr a2, vi (0 : Int32), vr a2, vi (2 : Int32), .unset, .unset]) rfl ?_
    refine o_iconst X0 hx (hb hby d6_8) (v := 0) rfl ?_
    refine o_istore X0 hx (hb hby d6_9) (L' := #[vr a1, vr a2, vi (0 : Int32), vr a2, vi (2 : Int32), vi (0 : Int32), .unset]) rfl ?_
    refine o_iload X0 hx (hb hby d6_11) rfl ?_
    refine o_iload X0 hx (hb hby d6_13) rfl ?_
    refine o_icmpNo X0 hx (hb hby d6_15) (tlt (by decide : (0 : Int32) < (2 : Int32))).2.1 ?_
    refine o_aloadN X0 hx (hb hby d6_18) rfl rfl ?_
    refine o_iload X0 hx (hb hby d6_19) rfl ?_
    exact k_
  obtain ⟨cl4, Ar4, -, Sz4, Nn4, Hs4, -⟩ := id VN
  have hin4 : ¬ ((0 : Int32) < 0 ∨ cl4.slots.size ≤ ((0 : Int32)).toNatClampNeg) := inb_of Sz4 ⟨by decide, by decide⟩
  have hat4 : cl4.slots[((0 : Int32)).toNatClampNeg]? = some (.int k0) := Hs4.at hin4 rfl
  have go5 : Go p e below s₁ F0 s₁ (mkF m 26 #[vr a1, vr a2, vi (0 : Int32), vr a2, vi (2 : Int32), vi (0 : Int32), vi k0] [(.ref a1), (.int (0 : Int32))]) := by
    intro t_ k_
    refine go3 t_ ?_
    refine o_iaload X0 hx hZ e0 Ar4 hin4 hat4 (hb hby d6_21) ?_
    refine o_istore X0 hx (hb hby d6_22) (L' := #[vr a1, vr a2, vi (0 : Int32), vr a2, vi (2 : Int32), vi (0 : Int32), vi k0]) rfl ?_
    refine o_iloadN X0 hx (hb hby d6_24) rfl ?_
    refine o_aloadN X0 hx (hb hby d6_25) rfl rfl ?_
    exact k_
  obtain ⟨T6, X6, e6, st6⟩ := getF X0 hx hZ hown (host := "") (Or.inl (own_w hw 26 rfl)) Via.refl e0 Fl (g := (mkF m 26 #[vr a1, vr a2, vi (0 : Int32), vr a2, vi (2 : Int32), vi (0 : Int32), vi k0] [(.ref a1), (.int (0 : Int32))])) rfl rfl (hb hby d6_26)
  have go7 : Go p e below s₁ F0 T6 (mkF m 29 #[vr a1, vr a2, vi (0 : Int32), vr a2, vi (2 : Int32), vi (0 : Int32), vi k0] [(.ref w), (.int (0 : Int32))]) := fun t_ k_ => go5 t_ (st6 t_ k_)
  obtain ⟨cl8, Ar8, -, Sz8, Nn8, -, -⟩ := id VL
  have go9 : Go p e below s₁ F0 T6 (mkF m 34 #[vr a1, vr a2, vi (0 : Int32), vr a2, vi (2 : Int32), vi (0 : Int32), vi k0] [(.ref a1)]) := by
    intro t_ k_
    refine go7 t_ ?_
    refine o_len X6 hx hZ e6 Ar8 Sz8 Nn8 (hb hby d6_29) ?_
    refine o_icmpNo X6 hx (hb hby d6_30) (tlt (by decide : (0 : Int32) < (2 : Int32))).2.1 ?_
    refine o_aloadN X6 hx (hb hby d6_33) rfl rfl ?_
    exact k_
  obtain ⟨T10, X10, e10, st10⟩ := getF X6 hx hZ hown (host := "") (Or.inl (own_w hw 26 rfl)) Via.refl e6 Fl (g := (mkF m 34 #[vr a1, vr a2, vi (0 : Int32), vr a2, vi (2 : Int32), vi (0 : Int32), vi k0] [(.ref a1)])) rfl rfl (hb hby d6_34)
  have go11 : Go p e below s₁ F0 T10 (mkF m 37 #[vr a1, vr a2, vi (0 : Int32), vr a2, vi (2 : Int32), vi (0 : Int32), vi k0] [(.ref w)]) := fun t_ k_ => go9 t_ (st10 t_ k_)
  have go12 : Go p e below s₁ F0 T10 (mkF m 38 #[vr a1, vr a2, vi (0 : Int32), vr a2, vi (2 : Int32), vi (0 : Int32), vi k0] [(.int (0 : Int32)), (.ref w)]) := by
    intro t_ k_
    refine go11 t_ ?_
    refine o_iloadN X10 hx (hb hby d6_37) rfl ?_
    exact k_
  obtain ⟨cl13, Ar13, -, Sz13, Nn13, Hs13, -⟩ := id VL
  have hin13 : ¬ ((0 : Int32) < 0 ∨ cl13.slots.size ≤ ((0 : Int32)).toNatClampNeg) := inb_of Sz13 ⟨by decide, by decide⟩
  have hat13 : cl13.slots[((0 : Int32)).toNatClampNeg]? = some (.int l0) := Hs13.at hin13 rfl
  have go14 : Go p e below s₁ F0 T10 (mkF m 41 #[vr a1, vr a2, vi (0 : Int32), vr a2, vi (2 : Int32), vi (0 : Int32), vi k0] [(.int k0), (.int l0)]) := by
    intro t_ k_
    refine go12 t_ ?_
    refine o_iaload X10 hx hZ e10 Ar13 hin13 hat13 (hb hby d6_38) ?_
    refine o_iload X10 hx (hb hby d6_39) rfl ?_
    exact k_
  by_cases hc41_15 : l0 < k0
  · skip
    have go16 : Go p e below s₁ F0 T10 (mkF m 26 #[vr a1, vr a2, vi (1 : Int32), vr a2, vi (2 : Int32), vi (0 : Int32), vi k0] [(.ref a1), (.int (1 : Int32))]) := by
      intro t_ k_
      refine go14 t_ ?_
      refine o_icmpNo X10 hx (hb hby d6_41) (tlt hc41_15).2.1 ?_
      refine o_iinc X10 hx (hb hby d6_44) rfl (L' := #[vr a1, vr a2, vi (1 : Int32), vr a2, vi (2 : Int32), vi (0 : Int32), vi k0]) rfl ?_
      refine o_goto X10 hx (hb hby d6_47) (pc' := 24) rfl (by decide) ?_
      refine o_iloadN X10 hx (hb hby d6_24) rfl ?_
      refine o_aloadN X10 hx (hb hby d6_25) rfl rfl ?_
      exact k_
    obtain ⟨T17, X17, e17, st17⟩ := getF X10 hx hZ hown (host := "") (Or.inl (own_w hw 26 rfl)) Via.refl e10 Fl (g := (mkF m 26 #[vr a1, vr a2, vi (1 : Int32), vr a2, vi (2 : Int32), vi (0 : Int32), vi k0] [(.ref a1), (.int (1 : Int32))])) rfl rfl (hb hby d6_26)
    have go18 : Go p e below s₁ F0 T17 (mkF m 29 #[vr a1, vr a2, vi (1 : Int32), vr a2, vi (2 : Int32), vi (0 : Int32), vi k0] [(.ref w), (.int (1 : Int32))]) := fun t_ k_ => go16 t_ (st17 t_ k_)
    obtain ⟨cl19, Ar19, -, Sz19, Nn19, -, -⟩ := id VL
    have go20 : Go p e below s₁ F0 T17 (mkF m 34 #[vr a1, vr a2, vi (1 : Int32), vr a2, vi (2 : Int32), vi (0 : Int32), vi k0] [(.ref a1)]) := by
      intro t_ k_
      refine go18 t_ ?_
      refine o_len X17 hx hZ e17 Ar19 Sz19 Nn19 (hb hby d6_29) ?_
      refine o_icmpNo X17 hx (hb hby d6_30) (tlt (by decide : (1 : Int32) < (2 : Int32))).2.1 ?_
      refine o_aloadN X17 hx (hb hby d6_33) rfl rfl ?_
      exact k_
    obtain ⟨T21, X21, e21, st21⟩ := getF X17 hx hZ hown (host := "") (Or.inl (own_w hw 26 rfl)) Via.refl e17 Fl (g := (mkF m 34 #[vr a1, vr a2, vi (1 : Int32), vr a2, vi (2 : Int32), vi (0 : Int32), vi k0] [(.ref a1)])) rfl rfl (hb hby d6_34)
    have go22 : Go p e below s₁ F0 T21 (mkF m 37 #[vr a1, vr a2, vi (1 : Int32), vr a2, vi (2 : Int32), vi (0 : Int32), vi k0] [(.ref w)]) := fun t_ k_ => go20 t_ (st21 t_ k_)
    have go23 : Go p e below s₁ F0 T21 (mkF m 38 #[vr a1, vr a2, vi (1 : Int32), vr a2, vi (2 : Int32), vi (0 : Int32), vi k0] [(.int (1 : Int32)), (.ref w)]) := by
      intro t_ k_
      refine go22 t_ ?_
      refine o_iloadN X21 hx (hb hby d6_37) rfl ?_
      exact k_
    obtain ⟨cl24, Ar24, -, Sz24, Nn24, Hs24, -⟩ := id VL
    have hin24 : ¬ ((1 : Int32) < 0 ∨ cl24.slots.size ≤ ((1 : Int32)).toNatClampNeg) := inb_of Sz24 ⟨by decide, by decide⟩
    have hat24 : cl24.slots[((1 : Int32)).toNatClampNeg]? = some (.int l1) := Hs24.at hin24 rfl
    have go25 : Go p e below s₁ F0 T21 (mkF m 41 #[vr a1, vr a2, vi (1 : Int32), vr a2, vi (2 : Int32), vi (0 : Int32), vi k0] [(.int k0), (.int l1)]) := by
      intro t_ k_
      refine go23 t_ ?_
      refine o_iaload X21 hx hZ e21 Ar24 hin24 hat24 (hb hby d6_38) ?_
      refine o_iload X21 hx (hb hby d6_39) rfl ?_
      exact k_
    by_cases hc41_26 : l1 < k0
    · skip
      have go27 : Go p e below s₁ F0 T21 (mkF m 26 #[vr a1, vr a2, vi (2 : Int32), vr a2, vi (2 : Int32), vi (0 : Int32), vi k0] [(.ref a1), (.int (2 : Int32))]) := by
        intro t_ k_
        refine go25 t_ ?_
        refine o_icmpNo X21 hx (hb hby d6_41) (tlt hc41_26).2.1 ?_
        refine o_iinc X21 hx (hb hby d6_44) rfl (L' := #[vr a1, vr a2, vi (2 : Int32), vr a2, vi (2 : Int32), vi (0 : Int32), vi k0]) rfl ?_
        refine o_goto X21 hx (hb hby d6_47) (pc' := 24) rfl (by decide) ?_
        refine o_iloadN X21 hx (hb hby d6_24) rfl ?_
        refine o_aloadN X21 hx (hb hby d6_25) rfl rfl ?_
        exact k_
      obtain ⟨T28, X28, e28, st28⟩ := getF X21 hx hZ hown (host := "") (Or.inl (own_w hw 26 rfl)) Via.refl e21 Fl (g := (mkF m 26 #[vr a1, vr a2, vi (2 : Int32), vr a2, vi (2 : Int32), vi (0 : Int32), vi k0] [(.ref a1), (.int (2 : Int32))])) rfl rfl (hb hby d6_26)
      have go29 : Go p e below s₁ F0 T28 (mkF m 29 #[vr a1, vr a2, vi (2 : Int32), vr a2, vi (2 : Int32), vi (0 : Int32), vi k0] [(.ref w), (.int (2 : Int32))]) := fun t_ k_ => go27 t_ (st28 t_ k_)
      obtain ⟨cl30, Ar30, -, Sz30, Nn30, -, -⟩ := id VL
      have go31 : Go p e below s₁ F0 T28 (mkF m 52 #[vr a1, vr a2, vi (2 : Int32), vr a2, vi (2 : Int32), vi (0 : Int32), vi k0] [(.ref a1), (.int (2 : Int32))]) := by
        intro t_ k_
        refine go29 t_ ?_
        refine o_len X28 hx hZ e28 Ar30 Sz30 Nn30 (hb hby d6_29) ?_
        refine o_icmpYes X28 hx (hb hby d6_30) (pc' := 50) rfl (by decide) (flt (by decide : ¬ ((2 : Int32) < (2 : Int32)))).2.1 ?_
        refine o_iloadN X28 hx (hb hby d6_50) rfl ?_
        refine o_aloadN X28 hx (hb hby d6_51) rfl rfl ?_
        exact k_
      obtain ⟨T32, X32, e32, st32⟩ := getF X28 hx hZ hown (host := "") (Or.inl (own_w hw 26 rfl)) Via.refl e28 Fl (g := (mkF m 52 #[vr a1, vr a2, vi (2 : Int32), vr a2, vi (2 : Int32), vi (0 : Int32), vi k0] [(.ref a1), (.int (2 : Int32))])) rfl rfl (hb hby d6_52)
      have go33 : Go p e below s₁ F0 T32 (mkF m 55 #[vr a1, vr a2, vi (2 : Int32), vr a2, vi (2 : Int32), vi (0 : Int32), vi k0] [(.ref w), (.int (2 : Int32))]) := fun t_ k_ => go31 t_ (st32 t_ k_)
      obtain ⟨cl34, Ar34, -, Sz34, Nn34, -, -⟩ := id VL
      have go35 : Go p e below s₁ F0 T32 (mkF m 71 #[vr a1, vr a2, vi (2 : Int32), vr a2, vi (2 : Int32), vi (0 : Int32), vi k0] [(.int (0 : Int32))]) := by
        intro t_ k_
        refine go33 t_ ?_
        refine o_len X32 hx hZ e32 Ar34 Sz34 Nn34 (hb hby d6_55) ?_
        refine o_icmpYes X32 hx (hb hby d6_56) (pc' := 70) rfl (by decide) (teq (by decide : (2 : Int32) = (2 : Int32))).1 ?_
        refine o_iconst X32 hx (hb hby d6_70) (v := 0) rfl ?_
        exact k_
      obtain ⟨fs, hr, hrun, hended, hW, hsame⟩ := X32.leave (v := some (.int (0 : Int32))) (fun h => by rw [Bd.returns] at h; cases h)
      refine ⟨_, _, pre0 _ (go35 _ ?_), hrun, hended, _, _, rfl, ?_, ⟨_, rfl⟩, hW, hsame.mono (by decide) (by decide)⟩
      · skip
        exact retN X32 hx (t := .boolean) Bd.returns (by simp) (hb hby d6_71) hr
      · show Q6_2_2 Z a1 a2 w kw kn l0 l1 k0 k1 h0 n0 _ T32.heap _
        rw [e32]
        exact ⟨(congrArg (fun z => some (Value.int z)) (show (0 : Int32) = f6_2_2 l0 l1 k0 k1 from by unfold f6_2_2; rw [if_pos hc41_15, if_pos hc41_26])), N0, rfl⟩
    · skip
      have go36 : Go p e below s₁ F0 T21 (mkF m 52 #[vr a1, vr a2, vi (1 : Int32), vr a2, vi (2 : Int32), vi (0 : Int32), vi k0] [(.ref a1), (.int (1 : Int32))]) := by
        intro t_ k_
        refine go25 t_ ?_
        refine o_icmpYes X21 hx (hb hby d6_41) (pc' := 50) rfl (by decide) (flt hc41_26).2.1 ?_
        refine o_iloadN X21 hx (hb hby d6_50) rfl ?_
        refine o_aloadN X21 hx (hb hby d6_51) rfl rfl ?_
        exact k_
      obtain ⟨T37, X37, e37, st37⟩ := getF X21 hx hZ hown (host := "") (Or.inl (own_w hw 26 rfl)) Via.refl e21 Fl (g := (mkF m 52 #[vr a1, vr a2, vi (1 : Int32), vr a2, vi (2 : Int32), vi (0 : Int32), vi k0] [(.ref a1), (.int (1 : Int32))])) rfl rfl (hb hby d6_52)
      have go38 : Go p e below s₁ F0 T37 (mkF m 55 #[vr a1, vr a2, vi (1 : Int32), vr a2, vi (2 : Int32), vi (0 : Int32), vi k0] [(.ref w), (.int (1 : Int32))]) := fun t_ k_ => go36 t_ (st37 t_ k_)
      obtain ⟨cl39, Ar39, -, Sz39, Nn39, -, -⟩ := id VL
      have go40 : Go p e below s₁ F0 T37 (mkF m 60 #[vr a1, vr a2, vi (1 : Int32), vr a2, vi (2 : Int32), vi (0 : Int32), vi k0] [(.ref a1)]) := by
        intro t_ k_
        refine go38 t_ ?_
        refine o_len X37 hx hZ e37 Ar39 Sz39 Nn39 (hb hby d6_55) ?_
        refine o_icmpNo X37 hx (hb hby d6_56) (feq (by decide : ¬ ((1 : Int32) = (2 : Int32)))).1 ?_
        refine o_aloadN X37 hx (hb hby d6_59) rfl rfl ?_
        exact k_
      obtain ⟨T41, X41, e41, st41⟩ := getF X37 hx hZ hown (host := "") (Or.inl (own_w hw 26 rfl)) Via.refl e37 Fl (g := (mkF m 60 #[vr a1, vr a2, vi (1 : Int32), vr a2, vi (2 : Int32), vi (0 : Int32), vi k0] [(.ref a1)])) rfl rfl (hb hby d6_60)
      have go42 : Go p e below s₁ F0 T41 (mkF m 63 #[vr a1, vr a2, vi (1 : Int32), vr a2, vi (2 : Int32), vi (0 : Int32), vi k0] [(.ref w)]) := fun t_ k_ => go40 t_ (st41 t_ k_)
      have go43 : Go p e below s₁ F0 T41 (mkF m 64 #[vr a1, vr a2, vi (1 : Int32), vr a2, vi (2 : Int32), vi (0 : Int32), vi k0] [(.int (1 : Int32)), (.ref w)]) := by
        intro t_ k_
        refine go42 t_ ?_
        refine o_iloadN X41 hx (hb hby d6_63) rfl ?_
        exact k_
      obtain ⟨cl44, Ar44, -, Sz44, Nn44, Hs44, -⟩ := id VL
      have hin44 : ¬ ((1 : Int32) < 0 ∨ cl44.slots.size ≤ ((1 : Int32)).toNatClampNeg) := inb_of Sz44 ⟨by decide, by decide⟩
      have hat44 : cl44.slots[((1 : Int32)).toNatClampNeg]? = some (.int l1) := Hs44.at hin44 rfl
      have go45 : Go p e below s₁ F0 T41 (mkF m 67 #[vr a1, vr a2, vi (1 : Int32), vr a2, vi (2 : Int32), vi (0 : Int32), vi k0] [(.int k0), (.int l1)]) := by
        intro t_ k_
        refine go43 t_ ?_
        refine o_iaload X41 hx hZ e41 Ar44 hin44 hat44 (hb hby d6_64) ?_
        refine o_iload X41 hx (hb hby d6_65) rfl ?_
        exact k_
      by_cases hc67_46 : l1 = k0
      · skip
        have go47 : Go p e below s₁ F0 T41 (mkF m 21 #[vr a1, vr a2, vi (1 : Int32), vr a2, vi (2 : Int32), vi (1 : Int32), vi k0] [(.int (1 : Int32)), (.ref a2)]) := by
          intro t_ k_
          refine go45 t_ ?_
          refine o_icmpYes X41 hx (hb hby d6_67) (pc' := 72) rfl (by decide) (teq hc67_46).1 ?_
          refine o_iinc X41 hx (hb hby d6_72) rfl (L' := #[vr a1, vr a2, vi (1 : Int32), vr a2, vi (2 : Int32), vi (1 : Int32), vi k0]) rfl ?_
          refine o_goto X41 hx (hb hby d6_75) (pc' := 11) rfl (by decide) ?_
          refine o_iload X41 hx (hb hby d6_11) rfl ?_
          refine o_iload X41 hx (hb hby d6_13) rfl ?_
          refine o_icmpNo X41 hx (hb hby d6_15) (tlt (by decide : (1 : Int32) < (2 : Int32))).2.1 ?_
          refine o_aloadN X41 hx (hb hby d6_18) rfl rfl ?_
          refine o_iload X41 hx (hb hby d6_19) rfl ?_
          exact k_
        obtain ⟨cl48, Ar48, -, Sz48, Nn48, Hs48, -⟩ := id VN
        have hin48 : ¬ ((1 : Int32) < 0 ∨ cl48.slots.size ≤ ((1 : Int32)).toNatClampNeg) := inb_of Sz48 ⟨by decide, by decide⟩
        have hat48 : cl48.slots[((1 : Int32)).toNatClampNeg]? = some (.int k1) := Hs48.at hin48 rfl
        have go49 : Go p e below s₁ F0 T41 (mkF m 26 #[vr a1, vr a2, vi (1 : Int32), vr a2, vi (2 : Int32), vi (1 : Int32), vi k1] [(.ref a1), (.int (1 : Int32))]) := by
          intro t_ k_
          refine go47 t_ ?_
          refine o_iaload X41 hx hZ e41 Ar48 hin48 hat48 (hb hby d6_21) ?_
          refine o_istore X41 hx (hb hby d6_22) (L' := #[vr a1, vr a2, vi (1 : Int32), vr a2, vi (2 : Int32), vi (1 : Int32), vi k1]) rfl ?_
          refine o_iloadN X41 hx (hb hby d6_24) rfl ?_
          refine o_aloadN X41 hx (hb hby d6_25) rfl rfl ?_
          exact k_
        obtain ⟨T50, X50, e50, st50⟩ := getF X41 hx hZ hown (host := "") (Or.inl (own_w hw 26 rfl)) Via.refl e41 Fl (g := (mkF m 26 #[vr a1, vr a2, vi (1 : Int32), vr a2, vi (2 : Int32), vi (1 : Int32), vi k1] [(.ref a1), (.int (1 : Int32))])) rfl rfl (hb hby d6_26)
        have go51 : Go p e below s₁ F0 T50 (mkF m 29 #[vr a1, vr a2, vi (1 : Int32), vr a2, vi (2 : Int32), vi (1 : Int32), vi k1] [(.ref w), (.int (1 : Int32))]) := fun t_ k_ => go49 t_ (st50 t_ k_)
        obtain ⟨cl52, Ar52, -, Sz52, Nn52, -, -⟩ := id VL
        have go53 : Go p e below s₁ F0 T50 (mkF m 34 #[vr a1, vr a2, vi (1 : Int32), vr a2, vi (2 : Int32), vi (1 : Int32), vi k1] [(.ref a1)]) := by
          intro t_ k_
          refine go51 t_ ?_
          refine o_len X50 hx hZ e50 Ar52 Sz52 Nn52 (hb hby d6_29) ?_
          refine o_icmpNo X50 hx (hb hby d6_30) (tlt (by decide : (1 : Int32) < (2 : Int32))).2.1 ?_
          refine o_aloadN X50 hx (hb hby d6_33) rfl rfl ?_
          exact k_
        obtain ⟨T54, X54, e54, st54⟩ := getF X50 hx hZ hown (host := "") (Or.inl (own_w hw 26 rfl)) Via.refl e50 Fl (g := (mkF m 34 #[vr a1, vr a2, vi (1 : Int32), vr a2, vi (2 : Int32), vi (1 : Int32), vi k1] [(.ref a1)])) rfl rfl (hb hby d6_34)
        have go55 : Go p e below s₁ F0 T54 (mkF m 37 #[vr a1, vr a2, vi (1 : Int32), vr a2, vi (2 : Int32), vi (1 : Int32), vi k1] [(.ref w)]) := fun t_ k_ => go53 t_ (st54 t_ k_)
        have go56 : Go p e below s₁ F0 T54 (mkF m 38 #[vr a1, vr a2, vi (1 : Int32), vr a2, vi (2 : Int32), vi (1 : Int32), vi k1] [(.int (1 : Int32)), (.ref w)]) := by
          intro t_ k_
          refine go55 t_ ?_
          refine o_iloadN X54 hx (hb hby d6_37) rfl ?_
          exact k_
        obtain ⟨cl57, Ar57, -, Sz57, Nn57, Hs57, -⟩ := id VL
        have hin57 : ¬ ((1 : Int32) < 0 ∨ cl57.slots.size ≤ ((1 : Int32)).toNatClampNeg) := inb_of Sz57 ⟨by decide, by decide⟩
        have hat57 : cl57.slots[((1 : Int32)).toNatClampNeg]? = some (.int l1) := Hs57.at hin57 rfl
        have go59 : Go p e below s₁ F0 T54 (mkF m 41 #[vr a1, vr a2, vi (1 : Int32), vr a2, vi (2 : Int32), vi (1 : Int32), vi k1] [(.int k1), (.int l1)]) := by
          intro t_ k_
          refine go56 t_ ?_
          refine o_iaload X54 hx hZ e54 Ar57 hin57 hat57 (hb hby d6_38) ?_
          refine o_iload X54 hx (hb hby d6_39) rfl ?_
          exact k_
        have hd58 : l1 < k1 := (by rw [hc67_46]; exact s0)
        have go60 : Go p e below s₁ F0 T54 (mkF m 26 #[vr a1, vr a2, vi (2 : Int32), vr a2, vi (2 : Int32), vi (1 : Int32), vi k1] [(.ref a1), (.int (2 : Int32))]) := by
          intro t_ k_
          refine go59 t_ ?_
          refine o_icmpNo X54 hx (hb hby d6_41) (tlt hd58).2.1 ?_
          refine o_iinc X54 hx (hb hby d6_44) rfl (L' := #[vr a1, vr a2, vi (2 : Int32), vr a2, vi (2 : Int32), vi (1 : Int32), vi k1]) rfl ?_
          refine o_goto X54 hx (hb hby d6_47) (pc' := 24) rfl (by decide) ?_
          refine o_iloadN X54 hx (hb hby d6_24) rfl ?_
          refine o_aloadN X54 hx (hb hby d6_25) rfl rfl ?_
          exact k_
        obtain ⟨T61, X61, e61, st61⟩ := getF X54 hx hZ hown (host := "") (Or.inl (own_w hw 26 rfl)) Via.refl e54 Fl (g := (mkF m 26 #[vr a1, vr a2, vi (2 : Int32), vr a2, vi (2 : Int32), vi (1 : Int32), vi k1] [(.ref a1), (.int (2 : Int32))])) rfl rfl (hb hby d6_26)
        have go62 : Go p e below s₁ F0 T61 (mkF m 29 #[vr a1, vr a2, vi (2 : Int32), vr a2, vi (2 : Int32), vi (1 : Int32), vi k1] [(.ref w), (.int (2 : Int32))]) := fun t_ k_ => go60 t_ (st61 t_ k_)
        obtain ⟨cl63, Ar63, -, Sz63, Nn63, -, -⟩ := id VL
        have go64 : Go p e below s₁ F0 T61 (mkF m 52 #[vr a1, vr a2, vi (2 : Int32), vr a2, vi (2 : Int32), vi (1 : Int32), vi k1] [(.ref a1), (.int (2 : Int32))]) := by
          intro t_ k_
          refine go62 t_ ?_
          refine o_len X61 hx hZ e61 Ar63 Sz63 Nn63 (hb hby d6_29) ?_
          refine o_icmpYes X61 hx (hb hby d6_30) (pc' := 50) rfl (by decide) (flt (by decide : ¬ ((2 : Int32) < (2 : Int32)))).2.1 ?_
          refine o_iloadN X61 hx (hb hby d6_50) rfl ?_
          refine o_aloadN X61 hx (hb hby d6_51) rfl rfl ?_
          exact k_
        obtain ⟨T65, X65, e65, st65⟩ := getF X61 hx hZ hown (host := "") (Or.inl (own_w hw 26 rfl)) Via.refl e61 Fl (g := (mkF m 52 #[vr a1, vr a2, vi (2 : Int32), vr a2, vi (2 : Int32), vi (1 : Int32), vi k1] [(.ref a1), (.int (2 : Int32))])) rfl rfl (hb hby d6_52)
        have go66 : Go p e below s₁ F0 T65 (mkF m 55 #[vr a1, vr a2, vi (2 : Int32), vr a2, vi (2 : Int32), vi (1 : Int32), vi k1] [(.ref w), (.int (2 : Int32))]) := fun t_ k_ => go64 t_ (st65 t_ k_)
        obtain ⟨cl67, Ar67, -, Sz67, Nn67, -, -⟩ := id VL
        have go68 : Go p e below s₁ F0 T65 (mkF m 71 #[vr a1, vr a2, vi (2 : Int32), vr a2, vi (2 : Int32), vi (1 : Int32), vi k1] [(.int (0 : Int32))]) := by
          intro t_ k_
          refine go66 t_ ?_
          refine o_len X65 hx hZ e65 Ar67 Sz67 Nn67 (hb hby d6_55) ?_
          refine o_icmpYes X65 hx (hb hby d6_56) (pc' := 70) rfl (by decide) (teq (by decide : (2 : Int32) = (2 : Int32))).1 ?_
          refine o_iconst X65 hx (hb hby d6_70) (v := 0) rfl ?_
          exact k_
        obtain ⟨fs, hr, hrun, hended, hW, hsame⟩ := X65.leave (v := some (.int (0 : Int32))) (fun h => by rw [Bd.returns] at h; cases h)
        refine ⟨_, _, pre0 _ (go68 _ ?_), hrun, hended, _, _, rfl, ?_, ⟨_, rfl⟩, hW, hsame.mono (by decide) (by decide)⟩
        · skip
          exact retN X65 hx (t := .boolean) Bd.returns (by simp) (hb hby d6_71) hr
        · show Q6_2_2 Z a1 a2 w kw kn l0 l1 k0 k1 h0 n0 _ T65.heap _
          rw [e65]
          exact ⟨(congrArg (fun z => some (Value.int z)) (show (0 : Int32) = f6_2_2 l0 l1 k0 k1 from by unfold f6_2_2; rw [if_pos hc41_15, if_neg hc41_26, if_pos hc67_46])), N0, rfl⟩
      · skip
        have go69 : Go p e below s₁ F0 T41 (mkF m 71 #[vr a1, vr a2, vi (1 : Int32), vr a2, vi (2 : Int32), vi (0 : Int32), vi k0] [(.int (0 : Int32))]) := by
          intro t_ k_
          refine go45 t_ ?_
          refine o_icmpNo X41 hx (hb hby d6_67) (feq hc67_46).1 ?_
          refine o_iconst X41 hx (hb hby d6_70) (v := 0) rfl ?_
          exact k_
        obtain ⟨fs, hr, hrun, hended, hW, hsame⟩ := X41.leave (v := some (.int (0 : Int32))) (fun h => by rw [Bd.returns] at h; cases h)
        refine ⟨_, _, pre0 _ (go69 _ ?_), hrun, hended, _, _, rfl, ?_, ⟨_, rfl⟩, hW, hsame.mono (by decide) (by decide)⟩
        · skip
          exact retN X41 hx (t := .boolean) Bd.returns (by simp) (hb hby d6_71) hr
        · show Q6_2_2 Z a1 a2 w kw kn l0 l1 k0 k1 h0 n0 _ T41.heap _
          rw [e41]
          exact ⟨(congrArg (fun z => some (Value.int z)) (show (0 : Int32) = f6_2_2 l0 l1 k0 k1 from by unfold f6_2_2; rw [if_pos hc41_15, if_neg hc41_26, if_neg hc67_46])), N0, rfl⟩
  · skip
    have go70 : Go p e below s₁ F0 T10 (mkF m 52 #[vr a1, vr a2, vi (0 : Int32), vr a2, vi (2 : Int32), vi (0 : Int32), vi k0] [(.ref a1), (.int (0 : Int32))]) := by
      intro t_ k_
      refine go14 t_ ?_
      refine o_icmpYes X10 hx (hb hby d6_41) (pc' := 50) rfl (by decide) (flt hc41_15).2.1 ?_
      refine o_iloadN X10 hx (hb hby d6_50) rfl ?_
      refine o_aloadN X10 hx (hb hby d6_51) rfl rfl ?_
      exact k_
    obtain ⟨T71, X71, e71, st71⟩ := getF X10 hx hZ hown (host := "") (Or.inl (own_w hw 26 rfl)) Via.refl e10 Fl (g := (mkF m 52 #[vr a1, vr a2, vi (0 : Int32), vr a2, vi (2 : Int32), vi (0 : Int32), vi k0] [(.ref a1), (.int (0 : Int32))])) rfl rfl (hb hby d6_52)
    have go72 : Go p e below s₁ F0 T71 (mkF m 55 #[vr a1, vr a2, vi (0 : Int32), vr a2, vi (2 : Int32), vi (0 : Int32), vi k0] [(.ref w), (.int (0 : Int32))]) := fun t_ k_ => go70 t_ (st71 t_ k_)
    obtain ⟨cl73, Ar73, -, Sz73, Nn73, -, -⟩ := id VL
    have go74 : Go p e below s₁ F0 T71 (mkF m 60 #[vr a1, vr a2, vi (0 : Int32), vr a2, vi (2 : Int32), vi (0 : Int32), vi k0] [(.ref a1)]) := by
      intro t_ k_
      refine go72 t_ ?_
      refine o_len X71 hx hZ e71 Ar73 Sz73 Nn73 (hb hby d6_55) ?_
      refine o_icmpNo X71 hx (hb hby d6_56) (feq (by decide : ¬ ((0 : Int32) = (2 : Int32)))).1 ?_
      refine o_aloadN X71 hx (hb hby d6_59) rfl rfl ?_
      exact k_
    obtain ⟨T75, X75, e75, st75⟩ := getF X71 hx hZ hown (host := "") (Or.inl (own_w hw 26 rfl)) Via.refl e71 Fl (g := (mkF m 60 #[vr a1, vr a2, vi (0 : Int32), vr a2, vi (2 : Int32), vi (0 : Int32), vi k0] [(.ref a1)])) rfl rfl (hb hby d6_60)
    have go76 : Go p e below s₁ F0 T75 (mkF m 63 #[vr a1, vr a2, vi (0 : Int32), vr a2, vi (2 : Int32), vi (0 : Int32), vi k0] [(.ref w)]) := fun t_ k_ => go74 t_ (st75 t_ k_)
    have go77 : Go p e below s₁ F0 T75 (mkF m 64 #[vr a1, vr a2, vi (0 : Int32), vr a2, vi (2 : Int32), vi (0 : Int32), vi k0] [(.int (0 : Int32)), (.ref w)]) := by
      intro t_ k_
      refine go76 t_ ?_
      refine o_iloadN X75 hx (hb hby d6_63) rfl ?_
      exact k_
    obtain ⟨cl78, Ar78, -, Sz78, Nn78, Hs78, -⟩ := id VL
    have hin78 : ¬ ((0 : Int32) < 0 ∨ cl78.slots.size ≤ ((0 : Int32)).toNatClampNeg) := inb_of Sz78 ⟨by decide, by decide⟩
    have hat78 : cl78.slots[((0 : Int32)).toNatClampNeg]? = some (.int l0) := Hs78.at hin78 rfl
    have go79 : Go p e below s₁ F0 T75 (mkF m 67 #[vr a1, vr a2, vi (0 : Int32), vr a2, vi (2 : Int32), vi (0 : Int32), vi k0] [(.int k0), (.int l0)]) := by
      intro t_ k_
      refine go77 t_ ?_
      refine o_iaload X75 hx hZ e75 Ar78 hin78 hat78 (hb hby d6_64) ?_
      refine o_iload X75 hx (hb hby d6_65) rfl ?_
      exact k_
    by_cases hc67_80 : l0 = k0
    · skip
      have go81 : Go p e below s₁ F0 T75 (mkF m 21 #[vr a1, vr a2, vi (0 : Int32), vr a2, vi (2 : Int32), vi (1 : Int32), vi k0] [(.int (1 : Int32)), (.ref a2)]) := by
        intro t_ k_
        refine go79 t_ ?_
        refine o_icmpYes X75 hx (hb hby d6_67) (pc' := 72) rfl (by decide) (teq hc67_80).1 ?_
        refine o_iinc X75 hx (hb hby d6_72) rfl (L' := #[vr a1, vr a2, vi (0 : Int32), vr a2, vi (2 : Int32), vi (1 : Int32), vi k0]) rfl ?_
        refine o_goto X75 hx (hb hby d6_75) (pc' := 11) rfl (by decide) ?_
        refine o_iload X75 hx (hb hby d6_11) rfl ?_
        refine o_iload X75 hx (hb hby d6_13) rfl ?_
        refine o_icmpNo X75 hx (hb hby d6_15) (tlt (by decide : (1 : Int32) < (2 : Int32))).2.1 ?_
        refine o_aloadN X75 hx (hb hby d6_18) rfl rfl ?_
        refine o_iload X75 hx (hb hby d6_19) rfl ?_
        exact k_
      obtain ⟨cl82, Ar82, -, Sz82, Nn82, Hs82, -⟩ := id VN
      have hin82 : ¬ ((1 : Int32) < 0 ∨ cl82.slots.size ≤ ((1 : Int32)).toNatClampNeg) := inb_of Sz82 ⟨by decide, by decide⟩
      have hat82 : cl82.slots[((1 : Int32)).toNatClampNeg]? = some (.int k1) := Hs82.at hin82 rfl
      have go83 : Go p e below s₁ F0 T75 (mkF m 26 #[vr a1, vr a2, vi (0 : Int32), vr a2, vi (2 : Int32), vi (1 : Int32), vi k1] [(.ref a1), (.int (0 : Int32))]) := by
        intro t_ k_
        refine go81 t_ ?_
        refine o_iaload X75 hx hZ e75 Ar82 hin82 hat82 (hb hby d6_21) ?_
        refine o_istore X75 hx (hb hby d6_22) (L' := #[vr a1, vr a2, vi (0 : Int32), vr a2, vi (2 : Int32), vi (1 : Int32), vi k1]) rfl ?_
        refine o_iloadN X75 hx (hb hby d6_24) rfl ?_
        refine o_aloadN X75 hx (hb hby d6_25) rfl rfl ?_
        exact k_
      obtain ⟨T84, X84, e84, st84⟩ := getF X75 hx hZ hown (host := "") (Or.inl (own_w hw 26 rfl)) Via.refl e75 Fl (g := (mkF m 26 #[vr a1, vr a2, vi (0 : Int32), vr a2, vi (2 : Int32), vi (1 : Int32), vi k1] [(.ref a1), (.int (0 : Int32))])) rfl rfl (hb hby d6_26)
      have go85 : Go p e below s₁ F0 T84 (mkF m 29 #[vr a1, vr a2, vi (0 : Int32), vr a2, vi (2 : Int32), vi (1 : Int32), vi k1] [(.ref w), (.int (0 : Int32))]) := fun t_ k_ => go83 t_ (st84 t_ k_)
      obtain ⟨cl86, Ar86, -, Sz86, Nn86, -, -⟩ := id VL
      have go87 : Go p e below s₁ F0 T84 (mkF m 34 #[vr a1, vr a2, vi (0 : Int32), vr a2, vi (2 : Int32), vi (1 : Int32), vi k1] [(.ref a1)]) := by
        intro t_ k_
        refine go85 t_ ?_
        refine o_len X84 hx hZ e84 Ar86 Sz86 Nn86 (hb hby d6_29) ?_
        refine o_icmpNo X84 hx (hb hby d6_30) (tlt (by decide : (0 : Int32) < (2 : Int32))).2.1 ?_
        refine o_aloadN X84 hx (hb hby d6_33) rfl rfl ?_
        exact k_
      obtain ⟨T88, X88, e88, st88⟩ := getF X84 hx hZ hown (host := "") (Or.inl (own_w hw 26 rfl)) Via.refl e84 Fl (g := (mkF m 34 #[vr a1, vr a2, vi (0 : Int32), vr a2, vi (2 : Int32), vi (1 : Int32), vi k1] [(.ref a1)])) rfl rfl (hb hby d6_34)
      have go89 : Go p e below s₁ F0 T88 (mkF m 37 #[vr a1, vr a2, vi (0 : Int32), vr a2, vi (2 : Int32), vi (1 : Int32), vi k1] [(.ref w)]) := fun t_ k_ => go87 t_ (st88 t_ k_)
      have go90 : Go p e below s₁ F0 T88 (mkF m 38 #[vr a1, vr a2, vi (0 : Int32), vr a2, vi (2 : Int32), vi (1 : Int32), vi k1] [(.int (0 : Int32)), (.ref w)]) := by
        intro t_ k_
        refine go89 t_ ?_
        refine o_iloadN X88 hx (hb hby d6_37) rfl ?_
        exact k_
      obtain ⟨cl91, Ar91, -, Sz91, Nn91, Hs91, -⟩ := id VL
      have hin91 : ¬ ((0 : Int32) < 0 ∨ cl91.slots.size ≤ ((0 : Int32)).toNatClampNeg) := inb_of Sz91 ⟨by decide, by decide⟩
      have hat91 : cl91.slots[((0 : Int32)).toNatClampNeg]? = some (.int l0) := Hs91.at hin91 rfl
      have go93 : Go p e below s₁ F0 T88 (mkF m 41 #[vr a1, vr a2, vi (0 : Int32), vr a2, vi (2 : Int32), vi (1 : Int32), vi k1] [(.int k1), (.int l0)]) := by
        intro t_ k_
        refine go90 t_ ?_
        refine o_iaload X88 hx hZ e88 Ar91 hin91 hat91 (hb hby d6_38) ?_
        refine o_iload X88 hx (hb hby d6_39) rfl ?_
        exact k_
      have hd92 : l0 < k1 := (by rw [hc67_80]; exact s0)
      have go94 : Go p e below s₁ F0 T88 (mkF m 26 #[vr a1, vr a2, vi (1 : Int32), vr a2, vi (2 : Int32), vi (1 : Int32), vi k1] [(.ref a1), (.int (1 : Int32))]) := by
        intro t_ k_
        refine go93 t_ ?_
        refine o_icmpNo X88 hx (hb hby d6_41) (tlt hd92).2.1 ?_
        refine o_iinc X88 hx (hb hby d6_44) rfl (L' := #[vr a1, vr a2, vi (1 : Int32), vr a2, vi (2 : Int32), vi (1 : Int32), vi k1]) rfl ?_
        refine o_goto X88 hx (hb hby d6_47) (pc' := 24) rfl (by decide) ?_
        refine o_iloadN X88 hx (hb hby d6_24) rfl ?_
        refine o_aloadN X88 hx (hb hby d6_25) rfl rfl ?_
        exact k_
      obtain ⟨T95, X95, e95, st95⟩ := getF X88 hx hZ hown (host := "") (Or.inl (own_w hw 26 rfl)) Via.refl e88 Fl (g := (mkF m 26 #[vr a1, vr a2, vi (1 : Int32), vr a2, vi (2 : Int32), vi (1 : Int32), vi k1] [(.ref a1), (.int (1 : Int32))])) rfl rfl (hb hby d6_26)
      have go96 : Go p e below s₁ F0 T95 (mkF m 29 #[vr a1, vr a2, vi (1 : Int32), vr a2, vi (2 : Int32), vi (1 : Int32), vi k1] [(.ref w), (.int (1 : Int32))]) := fun t_ k_ => go94 t_ (st95 t_ k_)
      obtain ⟨cl97, Ar97, -, Sz97, Nn97, -, -⟩ := id VL
      have go98 : Go p e below s₁ F0 T95 (mkF m 34 #[vr a1, vr a2, vi (1 : Int32), vr a2, vi (2 : Int32), vi (1 : Int32), vi k1] [(.ref a1)]) := by
        intro t_ k_
        refine go96 t_ ?_
        refine o_len X95 hx hZ e95 Ar97 Sz97 Nn97 (hb hby d6_29) ?_
        refine o_icmpNo X95 hx (hb hby d6_30) (tlt (by decide : (1 : Int32) < (2 : Int32))).2.1 ?_
        refine o_aloadN X95 hx (hb hby d6_33) rfl rfl ?_
        exact k_
      obtain ⟨T99, X99, e99, st99⟩ := getF X95 hx hZ hown (host := "") (Or.inl (own_w hw 26 rfl)) Via.refl e95 Fl (g := (mkF m 34 #[vr a1, vr a2, vi (1 : Int32), vr a2, vi (2 : Int32), vi (1 : Int32), vi k1] [(.ref a1)])) rfl rfl (hb hby d6_34)
      have go100 : Go p e below s₁ F0 T99 (mkF m 37 #[vr a1, vr a2, vi (1 : Int32), vr a2, vi (2 : Int32), vi (1 : Int32), vi k1] [(.ref w)]) := fun t_ k_ => go98 t_ (st99 t_ k_)
      have go101 : Go p e below s₁ F0 T99 (mkF m 38 #[vr a1, vr a2, vi (1 : Int32), vr a2, vi (2 : Int32), vi (1 : Int32), vi k1] [(.int (1 : Int32)), (.ref w)]) := by
        intro t_ k_
        refine go100 t_ ?_
        refine o_iloadN X99 hx (hb hby d6_37) rfl ?_
        exact k_
      obtain ⟨cl102, Ar102, -, Sz102, Nn102, Hs102, -⟩ := id VL
      have hin102 : ¬ ((1 : Int32) < 0 ∨ cl102.slots.size ≤ ((1 : Int32)).toNatClampNeg) := inb_of Sz102 ⟨by decide, by decide⟩
      have hat102 : cl102.slots[((1 : Int32)).toNatClampNeg]? = some (.int l1) := Hs102.at hin102 rfl
      have go103 : Go p e below s₁ F0 T99 (mkF m 41 #[vr a1, vr a2, vi (1 : Int32), vr a2, vi (2 : Int32), vi (1 : Int32), vi k1] [(.int k1), (.int l1)]) := by
        intro t_ k_
        refine go101 t_ ?_
        refine o_iaload X99 hx hZ e99 Ar102 hin102 hat102 (hb hby d6_38) ?_
        refine o_iload X99 hx (hb hby d6_39) rfl ?_
        exact k_
      by_cases hc41_104 : l1 < k1
      · skip
        have go105 : Go p e below s₁ F0 T99 (mkF m 26 #[vr a1, vr a2, vi (2 : Int32), vr a2, vi (2 : Int32), vi (1 : Int32), vi k1] [(.ref a1), (.int (2 : Int32))]) := by
          intro t_ k_
          refine go103 t_ ?_
          refine o_icmpNo X99 hx (hb hby d6_41) (tlt hc41_104).2.1 ?_
          refine o_iinc X99 hx (hb hby d6_44) rfl (L' := #[vr a1, vr a2, vi (2 : Int32), vr a2, vi (2 : Int32), vi (1 : Int32), vi k1]) rfl ?_
          refine o_goto X99 hx (hb hby d6_47) (pc' := 24) rfl (by decide) ?_
          refine o_iloadN X99 hx (hb hby d6_24) rfl ?_
          refine o_aloadN X99 hx (hb hby d6_25) rfl rfl ?_
          exact k_
        obtain ⟨T106, X106, e106, st106⟩ := getF X99 hx hZ hown (host := "") (Or.inl (own_w hw 26 rfl)) Via.refl e99 Fl (g := (mkF m 26 #[vr a1, vr a2, vi (2 : Int32), vr a2, vi (2 : Int32), vi (1 : Int32), vi k1] [(.ref a1), (.int (2 : Int32))])) rfl rfl (hb hby d6_26)
        have go107 : Go p e below s₁ F0 T106 (mkF m 29 #[vr a1, vr a2, vi (2 : Int32), vr a2, vi (2 : Int32), vi (1 : Int32), vi k1] [(.ref w), (.int (2 : Int32))]) := fun t_ k_ => go105 t_ (st106 t_ k_)
        obtain ⟨cl108, Ar108, -, Sz108, Nn108, -, -⟩ := id VL
        have go109 : Go p e below s₁ F0 T106 (mkF m 52 #[vr a1, vr a2, vi (2 : Int32), vr a2, vi (2 : Int32), vi (1 : Int32), vi k1] [(.ref a1), (.int (2 : Int32))]) := by
          intro t_ k_
          refine go107 t_ ?_
          refine o_len X106 hx hZ e106 Ar108 Sz108 Nn108 (hb hby d6_29) ?_
          refine o_icmpYes X106 hx (hb hby d6_30) (pc' := 50) rfl (by decide) (flt (by decide : ¬ ((2 : Int32) < (2 : Int32)))).2.1 ?_
          refine o_iloadN X106 hx (hb hby d6_50) rfl ?_
          refine o_aloadN X106 hx (hb hby d6_51) rfl rfl ?_
          exact k_
        obtain ⟨T110, X110, e110, st110⟩ := getF X106 hx hZ hown (host := "") (Or.inl (own_w hw 26 rfl)) Via.refl e106 Fl (g := (mkF m 52 #[vr a1, vr a2, vi (2 : Int32), vr a2, vi (2 : Int32), vi (1 : Int32), vi k1] [(.ref a1), (.int (2 : Int32))])) rfl rfl (hb hby d6_52)
        have go111 : Go p e below s₁ F0 T110 (mkF m 55 #[vr a1, vr a2, vi (2 : Int32), vr a2, vi (2 : Int32), vi (1 : Int32), vi k1] [(.ref w), (.int (2 : Int32))]) := fun t_ k_ => go109 t_ (st110 t_ k_)
        obtain ⟨cl112, Ar112, -, Sz112, Nn112, -, -⟩ := id VL
        have go113 : Go p e below s₁ F0 T110 (mkF m 71 #[vr a1, vr a2, vi (2 : Int32), vr a2, vi (2 : Int32), vi (1 : Int32), vi k1] [(.int (0 : Int32))]) := by
          intro t_ k_
          refine go111 t_ ?_
          refine o_len X110 hx hZ e110 Ar112 Sz112 Nn112 (hb hby d6_55) ?_
          refine o_icmpYes X110 hx (hb hby d6_56) (pc' := 70) rfl (by decide) (teq (by decide : (2 : Int32) = (2 : Int32))).1 ?_
          refine o_iconst X110 hx (hb hby d6_70) (v := 0) rfl ?_
          exact k_
        obtain ⟨fs, hr, hrun, hended, hW, hsame⟩ := X110.leave (v := some (.int (0 : Int32))) (fun h => by rw [Bd.returns] at h; cases h)
        refine ⟨_, _, pre0 _ (go113 _ ?_), hrun, hended, _, _, rfl, ?_, ⟨_, rfl⟩, hW, hsame.mono (by decide) (by decide)⟩
        · skip
          exact retN X110 hx (t := .boolean) Bd.returns (by simp) (hb hby d6_71) hr
        · show Q6_2_2 Z a1 a2 w kw kn l0 l1 k0 k1 h0 n0 _ T110.heap _
          rw [e110]
          exact ⟨(congrArg (fun z => some (Value.int z)) (show (0 : Int32) = f6_2_2 l0 l1 k0 k1 from by unfold f6_2_2; rw [if_neg hc41_15, if_pos hc67_80, if_pos hc41_104])), N0, rfl⟩
      · skip
        have go114 : Go p e below s₁ F0 T99 (mkF m 52 #[vr a1, vr a2, vi (1 : Int32), vr a2, vi (2 : Int32), vi (1 : Int32), vi k1] [(.ref a1), (.int (1 : Int32))]) := by
          intro t_ k_
          refine go103 t_ ?_
          refine o_icmpYes X99 hx (hb hby d6_41) (pc' := 50) rfl (by decide) (flt hc41_104).2.1 ?_
          refine o_iloadN X99 hx (hb hby d6_50) rfl ?_
          refine o_aloadN X99 hx (hb hby d6_51) rfl rfl ?_
          exact k_
        obtain ⟨T115, X115, e115, st115⟩ := getF X99 hx hZ hown (host := "") (Or.inl (own_w hw 26 rfl)) Via.refl e99 Fl (g := (mkF m 52 #[vr a1, vr a2, vi (1 : Int32), vr a2, vi (2 : Int32), vi (1 : Int32), vi k1] [(.ref a1), (.int (1 : Int32))])) rfl rfl (hb hby d6_52)
        have go116 : Go p e below s₁ F0 T115 (mkF m 55 #[vr a1, vr a2, vi (1 : Int32), vr a2, vi (2 : Int32), vi (1 : Int32), vi k1] [(.ref w), (.int (1 : Int32))]) := fun t_ k_ => go114 t_ (st115 t_ k_)
        obtain ⟨cl117, Ar117, -, Sz117, Nn117, -, -⟩ := id VL
        have go118 : Go p e below s₁ F0 T115 (mkF m 60 #[vr a1, vr a2, vi (1 : Int32), vr a2, vi (2 : Int32), vi (1 : Int32), vi k1] [(.ref a1)]) := by
          intro t_ k_
          refine go116 t_ ?_
          refine o_len X115 hx hZ e115 Ar117 Sz117 Nn117 (hb hby d6_55) ?_
          refine o_icmpNo X115 hx (hb hby d6_56) (feq (by decide : ¬ ((1 : Int32) = (2 : Int32)))).1 ?_
          refine o_aloadN X115 hx (hb hby d6_59) rfl rfl ?_
          exact k_
        obtain ⟨T119, X119, e119, st119⟩ := getF X115 hx hZ hown (host := "") (Or.inl (own_w hw 26 rfl)) Via.refl e115 Fl (g := (mkF m 60 #[vr a1, vr a2, vi (1 : Int32), vr a2, vi (2 : Int32), vi (1 : Int32), vi k1] [(.ref a1)])) rfl rfl (hb hby d6_60)
        have go120 : Go p e below s₁ F0 T119 (mkF m 63 #[vr a1, vr a2, vi (1 : Int32), vr a2, vi (2 : Int32), vi (1 : Int32), vi k1] [(.ref w)]) := fun t_ k_ => go118 t_ (st119 t_ k_)
        have go121 : Go p e below s₁ F0 T119 (mkF m 64 #[vr a1, vr a2, vi (1 : Int32), vr a2, vi (2 : Int32), vi (1 : Int32), vi k1] [(.int (1 : Int32)), (.ref w)]) := by
          intro t_ k_
          refine go120 t_ ?_
          refine o_iloadN X119 hx (hb hby d6_63) rfl ?_
          exact k_
        obtain ⟨cl122, Ar122, -, Sz122, Nn122, Hs122, -⟩ := id VL
        have hin122 : ¬ ((1 : Int32) < 0 ∨ cl122.slots.size ≤ ((1 : Int32)).toNatClampNeg) := inb_of Sz122 ⟨by decide, by decide⟩
        have hat122 : cl122.slots[((1 : Int32)).toNatClampNeg]? = some (.int l1) := Hs122.at hin122 rfl
        have go123 : Go p e below s₁ F0 T119 (mkF m 67 #[vr a1, vr a2, vi (1 : Int32), vr a2, vi (2 : Int32), vi (1 : Int32), vi k1] [(.int k1), (.int l1)]) := by
          intro t_ k_
          refine go121 t_ ?_
          refine o_iaload X119 hx hZ e119 Ar122 hin122 hat122 (hb hby d6_64) ?_
          refine o_iload X119 hx (hb hby d6_65) rfl ?_
          exact k_
        by_cases hc67_124 : l1 = k1
        · skip
          have go125 : Go p e below s₁ F0 T119 (mkF m 79 #[vr a1, vr a2, vi (1 : Int32), vr a2, vi (2 : Int32), vi (2 : Int32), vi k1] [(.int (1 : Int32))]) := by
            intro t_ k_
            refine go123 t_ ?_
            refine o_icmpYes X119 hx (hb hby d6_67) (pc' := 72) rfl (by decide) (teq hc67_124).1 ?_
            refine o_iinc X119 hx (hb hby d6_72) rfl (L' := #[vr a1, vr a2, vi (1 : Int32), vr a2, vi (2 : Int32), vi (2 : Int32), vi k1]) rfl ?_
            refine o_goto X119 hx (hb hby d6_75) (pc' := 11) rfl (by decide) ?_
            refine o_iload X119 hx (hb hby d6_11) rfl ?_
            refine o_iload X119 hx (hb hby d6_13) rfl ?_
            refine o_icmpYes X119 hx (hb hby d6_15) (pc' := 78) rfl (by decide) (flt (by decide : ¬ ((2 : Int32) < (2 : Int32)))).2.1 ?_
            refine o_iconst X119 hx (hb hby d6_78) (v := 1) rfl ?_
            exact k_
          obtain ⟨fs, hr, hrun, hended, hW, hsame⟩ := X119.leave (v := some (.int (1 : Int32))) (fun h => by rw [Bd.returns] at h; cases h)
          refine ⟨_, _, pre0 _ (go125 _ ?_), hrun, hended, _, _, rfl, ?_, ⟨_, rfl⟩, hW, hsame.mono (by decide) (by decide)⟩
          · skip
            exact retN X119 hx (t := .boolean) Bd.returns (by simp) (hb hby d6_79) hr
          · show Q6_2_2 Z a1 a2 w kw kn l0 l1 k0 k1 h0 n0 _ T119.heap _
            rw [e119]
            exact ⟨(congrArg (fun z => some (Value.int z)) (show (1 : Int32) = f6_2_2 l0 l1 k0 k1 from by unfold f6_2_2; rw [if_neg hc41_15, if_pos hc67_80, if_neg hc41_104, if_pos hc67_124])), N0, rfl⟩
        · skip
          have go126 : Go p e below s₁ F0 T119 (mkF m 71 #[vr a1, vr a2, vi (1 : Int32), vr a2, vi (2 : Int32), vi (1 : Int32), vi k1] [(.int (0 : Int32))]) := by
            intro t_ k_
            refine go123 t_ ?_
            refine o_icmpNo X119 hx (hb hby d6_67) (feq hc67_124).1 ?_
            refine o_iconst X119 hx (hb hby d6_70) (v := 0) rfl ?_
            exact k_
          obtain ⟨fs, hr, hrun, hended, hW, hsame⟩ := X119.leave (v := some (.int (0 : Int32))) (fun h => by rw [Bd.returns] at h; cases h)
          refine ⟨_, _, pre0 _ (go126 _ ?_), hrun, hended, _, _, rfl, ?_, ⟨_, rfl⟩, hW, hsame.mono (by decide) (by decide)⟩
          · skip
            exact retN X119 hx (t := .boolean) Bd.returns (by simp) (hb hby d6_71) hr
          · show Q6_2_2 Z a1 a2 w kw kn l0 l1 k0 k1 h0 n0 _ T119.heap _
            rw [e119]
            exact ⟨(congrArg (fun z => some (Value.int z)) (show (0 : Int32) = f6_2_2 l0 l1 k0 k1 from by unfold f6_2_2; rw [if_neg hc41_15, if_pos hc67_80, if_neg hc41_104, if_neg hc67_124])), N0, rfl⟩
    · skip
      have go127 : Go p e below s₁ F0 T75 (mkF m 71 #[vr a1, vr a2, vi (0 : Int32), vr a2, vi (2 : Int32), vi (0 : Int32), vi k0] [(.int (0 : Int32))]) := by
        intro t_ k_
        refine go79 t_ ?_
        refine o_icmpNo X75 hx (hb hby d6_67) (feq hc67_80).1 ?_
        refine o_iconst X75 hx (hb hby d6_70) (v := 0) rfl ?_
        exact k_
      obtain ⟨fs, hr, hrun, hended, hW, hsame⟩ := X75.leave (v := some (.int (0 : Int32))) (fun h => by rw [Bd.returns] at h; cases h)
      refine ⟨_, _, pre0 _ (go127 _ ?_), hrun, hended, _, _, rfl, ?_, ⟨_, rfl⟩, hW, hsame.mono (by decide) (by decide)⟩
      · skip
        exact retN X75 hx (t := .boolean) Bd.returns (by simp) (hb hby d6_71) hr
      · show Q6_2_2 Z a1 a2 w kw kn l0 l1 k0 k1 h0 n0 _ T75.heap _
        rw [e75]
        exact ⟨(congrArg (fun z => some (Value.int z)) (show (0 : Int32) = f6_2_2 l0 l1 k0 k1 from by unfold f6_2_2; rw [if_neg hc41_15, if_neg hc67_80])), N0, rfl⟩

theorem pn_6_2_3 : plainName "com/example/slackline/slackline/workload/Farm$Machine" = true := by first | (simp [plainName, overriddenIn]; done) | decide +kernel
theorem ef_6_2_3 (m : MethodId) (x0 : Addr) (x1 : Addr) : entryFrame m #[(.ref x0), (.ref x1)] 7 = mkF m 0 #[vr x0, vr x1, .unset, .unset, .unset, .unset, .unset] [] := by first | (simp [entryFrame, mkF, argsToLocals, Value.category]; done) | rfl
def f6_2_3 (l0 : Int32) (l1 : Int32) (k0 : Int32) (k1 : Int32) (k2 : Int32) : Int32 := (if l0 < k0 then (if l1 < k0 then (0 : Int32) else (if l1 = k0 then (0 : Int32) else (0 : Int32))) else (if l0 = k0 then (if l1 < k1 then (0 : Int32) else (if l1 = k1 then (0 : Int32) else (0 : Int32))) else (0 : Int32)))
def Q6_2_3 (Z : State) (a1 : Addr) (a2 : Addr) (w : Addr) (kw : ClassId) (kn : ClassId) (l0 : Int32) (l1 : Int32) (k0 : Int32) (k1 : Int32) (k2 : Int32) (h0 : Heap) (n0 : Nat) (v : Option Value) (h : Heap) (L : List Loc) : Prop := v = some (.int (f6_2_3 l0 l1 k0 k1 k2)) ∧ Fr n0 L ∧ h = h0
set_option maxRecDepth 65536 in
set_option maxHeartbeats 40000000 in
theorem rm6_2_3 (l : Launch) (Z : State) (a0 : Array Value) (hw : ∀ d ∈ tables_1, d.before a0 Z = true) (ws : List Jvm.Cond) (a1 : Addr) (a2 : Addr) (w : Addr) (kw : ClassId) (kn : ClassId) (l0 : Int32) (l1 : Int32) (k0 : Int32) (k1 : Int32) (k2 : Int32) (h0 : Heap) (n0 : Nat) (Z0 : n0 ≤ h0.size) (Fl : Fld Z h0 a1 c_0 "licences" "[I" (.ref w)) (VL : Arv Z h0 w kw .int (2 : Int32) [(.int l0), (.int l1)] (.int (0 : Int32))) (VN : Arv Z h0 a2 kn .int (3 : Int32) [(.int k0), (.int k1), (.int k2)] (.int (0 : Int32))) (s0 : k0 < k1) (s1 : k1 < k2) :
    MetFree l y_4 (head1 (Jvm.Cond.code y_4 prog_150_method_2_code 7 (some .boolean) :: ws) ({ frames := 0, cells := 0, slots := 0, locals := 0 } : Room)) (fun a U => a = #[(.ref a1), (.ref a2)] ∧ Z.Warmed39 U.vm ∧ U.heap = h0) (fun _ _ _ _ _ => True) (fun _ U o U' => ∃ v L, o = .returned v ∧ Q6_2_3 Z a1 a2 w kw kn l0 l1 k0 k1 k2 h0 n0 v U'.heap L ∧ FrameEnd U o U' L ({ frames := 0, cells := 0, slots := 0, locals := 0 } : Room).cells ({ frames := 0, cells := 0, slots := 0, locals := 0 } : Room).slots) := by
  refine MetFree.of_bodySF (plainFor_of_name pn_6_2_3) hisR ?_
  intro p e s m args below meth c s₁ Bd hml0 hP hK
  obtain ⟨rfl, hZ, hh⟩ := hP
  have hx := Bd.exec
  have hby := Bd.bytes
  have hml : c.maxLocals = 7 := hml0
  have hown : s.vm.findClass "com/example/slackline/slackline/workload/Farm$Machine" = some m.cls := findClass_of_methodNamed Bd.named
  have hnm := (name_of_methodNamed Bd.named Bd.method).1
  have X0 : Stand p l e ({ frames := 0, cells := 0, slots := 0, locals := 0 } : Room) s m #[(.ref a1), (.ref a2)] below meth c s₁ [] 0 0 := Stand.of_body Bd
  have e0 : s₁.heap = h0 := by rw [← hh, Bd.state]; rfl
  have N0 := Fr.nil n0
  obtain ⟨F0, hF0⟩ : ∃ F : JFrame, F = entryFrame m #[(.ref a1), (.ref a2)] 7 := ⟨_, rfl⟩
  have pre0 : ∀ t, Steps p.tables e below (s₁.setTop F0) t → Steps p.tables e below (s₁.setTop (entryFrame m #[(.ref a1), (.ref a2)] 7)) t := fun t k => hF0 ▸ k
  have go0 : Go p e below s₁ F0 s₁ (mkF m 0 #[vr a1, vr a2, .unset, .unset, .unset, .unset, .unset] []) := fun t k => castTop (hF0.trans (ef_6_2_3 m a1 a2)) k
  have go1 : Go p e below s₁ F0 s₁ (mkF m 5 #[vr a1, vr a2, vi (0 : Int32), vr a2, .unset, .unset, .unset] [(.ref a2)]) := by
    intro t_ k_
    refine go0 t_ ?_
    refine o_iconst X0 hx (hb hby d6_0) (v := 0) rfl ?_
    refine o_istoreN X0 hx (hb hby d6_1) (L' := #[vr a1, vr a2, vi (0 : Int32), .unset, .unset, .unset, .unset]) rfl ?_
    refine o_aloadN X0 hx (hb hby d6_2) rfl rfl ?_
    refine o_astoreN X0 hx (hb hby d6_3) rfl (L' := #[vr a1, vr a2, vi (0 : Int32), vr a2, .unset, .unset, .unset]) rfl ?_
    refine o_aloadN X0 hx (hb hby d6_4) rfl rfl ?_
    exact k_
  obtain ⟨cl2, Ar2, -, Sz2, Nn2, -, -⟩ := id VN
  have go3 : Go p e below s₁ F0 s₁ (mkF m 21 #[vr a1, vr a2, vi (0 : Int32), vr a2, vi (3 : Int32), vi (0 : Int32), .unset] [(.int (0 : Int32)), (.ref a2)]) := by
    intro t_ k_
    refine go1 t_ ?_
    refine o_len X0 hx hZ e0 Ar2 Sz2 Nn2 (hb hby d6_5) ?_
    refine o_istore X0 hx (hb hby d6_6) (L' := #[vr a1, vr a2, vi (0 : Int32), vr a2, vi (3 : Int32), .unset, .unset]) rfl ?_
    refine o_iconst X0 hx (hb hby d6_8) (v := 0) rfl ?_
    refine o_istore X0 hx (hb hby d6_9) (L' := #[vr a1, vr a2, vi (0 : Int32), vr a2, vi (3 : Int32), vi (0 : Int32), .unset]) rfl ?_
    refine o_iload X0 hx (hb hby d6_11) rfl ?_
    refine o_iload X0 hx (hb hby d6_13) rfl ?_
    refine o_icmpNo X0 hx (hb hby d6_15) (tlt (by decide : (0 : Int32) < (3 : Int32))).2.1 ?_
    refine o_aloadN X0 hx (hb hby d6_18) rfl rfl ?_
    refine o_iload X0 hx (hb hby d6_19) rfl ?_
    exact k_
  obtain ⟨cl4, Ar4, -, Sz4, Nn4, Hs4, -⟩ := id VN
  have hin4 : ¬ ((0 : Int32) < 0 ∨ cl4.slots.size ≤ ((0 : Int32)).toNatClampNeg) := inb_of Sz4 ⟨by decide, by decide⟩
  have hat4 : cl4.slots[((0 : Int32)).toNatClampNeg]? = some (.int k0) := Hs4.at hin4 rfl
  have go5 : Go p e below s₁ F0 s₁ (mkF m 26 #[vr a1, vr a2, vi (0 : Int32), vr a2, vi (3 : Int32), vi (0 : Int32), vi k0] [(.ref a1), (.int (0 : Int32))]) := by
    intro t_ k_
    refine go3 t_ ?_
    refine o_iaload X0 hx hZ e0 Ar4 hin4 hat4 (hb hby d6_21) ?_
    refine o_istore X0 hx (hb hby d6_22) (L' := #[vr a1, vr a2, vi (0 : Int32), vr a2, vi (3 : Int32), vi (0 : Int32), vi k0]) rfl ?_
    refine o_iloadN X0 hx (hb hby d6_24) rfl ?_
    refine o_aloadN X0 hx (hb hby d6_25) rfl rfl ?_
    exact k_
  obtain ⟨T6, X6, e6, st6⟩ := getF X0 hx hZ hown (host := "") (Or.inl (own_w hw 26 rfl)) Via.refl e0 Fl (g := (mkF m 26 #[vr a1, vr a2, vi (0 : Int32), vr a2, vi (3 : Int32), vi (0 : Int32), vi k0] [(.ref a1), (.int (0 : Int32))])) rfl rfl (hb hby d6_26)
  have go7 : Go p e below s₁ F0 T6 (mkF m 29 #[vr a1, vr a2, vi (0 : Int32), vr a2, vi (3 : Int32), vi (0 : Int32), vi k0] [(.ref w), (.int (0 : Int32))]) := fun t_ k_ => go5 t_ (st6 t_ k_)
  obtain ⟨cl8, Ar8, -, Sz8, Nn8, -, -⟩ := id VL
  have go9 : Go p e below s₁ F0 T6 (mkF m 34 #[vr a1, vr a2, vi (0 : Int32), vr a2, vi (3 : Int32), vi (0 : Int32), vi k0] [(.ref a1)]) := by
    intro t_ k_
    refine go7 t_ ?_
    refine o_len X6 hx hZ e6 Ar8 Sz8 Nn8 (hb hby d6_29) ?_
    refine o_icmpNo X6 hx (hb hby d6_30) (tlt (by decide : (0 : Int32) < (2 : Int32))).2.1 ?_
    refine o_aloadN X6 hx (hb hby d6_33) rfl rfl ?_
    exact k_
  obtain ⟨T10, X10, e10, st10⟩ := getF X6 hx hZ hown (host := "") (Or.inl (own_w hw 26 rfl)) Via.refl e6 Fl (g := (mkF m 34 #[vr a1, vr a2, vi (0 : Int32), vr a2, vi (3 : Int32), vi (0 : Int32), vi k0] [(.ref a1)])) rfl rfl (hb hby d6_34)
  have go11 : Go p e below s₁ F0 T10 (mkF m 37 #[vr a1, vr a2, vi (0 : Int32), vr a2, vi (3 : Int32), vi (0 : Int32), vi k0] [(.ref w)]) := fun t_ k_ => go9 t_ (st10 t_ k_)
  have go12 : Go p e below s₁ F0 T10 (mkF m 38 #[vr a1, vr a2, vi (0 : Int32), vr a2, vi (3 : Int32), vi (0 : Int32), vi k0] [(.int (0 : Int32)), (.ref w)]) := by
    intro t_ k_
    refine go11 t_ ?_
    refine o_iloadN X10 hx (hb hby d6_37) rfl ?_
    exact k_
  obtain ⟨cl13, Ar13, -, Sz13, Nn13, Hs13, -⟩ := id VL
  have hin13 : ¬ ((0 : Int32) < 0 ∨ cl13.slots.size ≤ ((0 : Int32)).toNatClampNeg) := inb_of Sz13 ⟨by decide, by decide⟩
  have hat13 : cl13.slots[((0 : Int32)).toNatClampNeg]? = some (.int l0) := Hs13.at hin13 rfl
  have go14 : Go p e below s₁ F0 T10 (mkF m 41 #[vr a1, vr a2, vi (0 : Int32), vr a2, vi (3 : Int32), vi (0 : Int32), vi k0] [(.int k0), (.int l0)]) := by
    intro t_ k_
    refine go12 t_ ?_
    refine o_iaload X10 hx hZ e10 Ar13 hin13 hat13 (hb hby d6_38) ?_
    refine o_iload X10 hx (hb hby d6_39) rfl ?_
    exact k_
  by_cases hc41_15 : l0 < k0
  · skip
    have go16 : Go p e below s₁ F0 T10 (mkF m 26 #[vr a1, vr a2, vi (1 : Int32), vr a2, vi (3 : Int32), vi (0 : Int32), vi k0] [(.ref a1), (.int (1 : Int32))]) := by
      intro t_ k_
      refine go14 t_ ?_
      refine o_icmpNo X10 hx (hb hby d6_41) (tlt hc41_15).2.1 ?_
      refine o_iinc X10 hx (hb hby d6_44) rfl (L' := #[vr a1, vr a2, vi (1 : Int32), vr a2, vi (3 : Int32), vi (0 : Int32), vi k0]) rfl ?_
      refine o_goto X10 hx (hb hby d6_47) (pc' := 24) rfl (by decide) ?_
      refine o_iloadN X10 hx (hb hby d6_24) rfl ?_
      refine o_aloadN X10 hx (hb hby d6_25) rfl rfl ?_
      exact k_
    obtain ⟨T17, X17, e17, st17⟩ := getF X10 hx hZ hown (host := "") (Or.inl (own_w hw 26 rfl)) Via.refl e10 Fl (g := (mkF m 26 #[vr a1, vr a2, vi (1 : Int32), vr a2, vi (3 : Int32), vi (0 : Int32), vi k0] [(.ref a1), (.int (1 : Int32))])) rfl rfl (hb hby d6_26)
    have go18 : Go p e below s₁ F0 T17 (mkF m 29 #[vr a1, vr a2, vi (1 : Int32), vr a2, vi (3 : Int32), vi (0 : Int32), vi k0] [(.ref w), (.int (1 : Int32))]) := fun t_ k_ => go16 t_ (st17 t_ k_)
    obtain ⟨cl19, Ar19, -, Sz19, Nn19, -, -⟩ := id VL
    have go20 : Go p e below s₁ F0 T17 (mkF m 34 #[vr a1, vr a2, vi (1 : Int32), vr a2, vi (3 : Int32), vi (0 : Int32), vi k0] [(.ref a1)]) := by
      intro t_ k_
      refine go18 t_ ?_
      refine o_len X17 hx hZ e17 Ar19 Sz19 Nn19 (hb hby d6_29) ?_
      refine o_icmpNo X17 hx (hb hby d6_30) (tlt (by decide : (1 : Int32) < (2 : Int32))).2.1 ?_
      refine o_aloadN X17 hx (hb hby d6_33) rfl rfl ?_
      exact k_
    obtain ⟨T21, X21, e21, st21⟩ := getF X17 hx hZ hown (host := "") (Or.inl (own_w hw 26 rfl)) Via.refl e17 Fl (g := (mkF m 34 #[vr a1, vr a2, vi (1 : Int32), vr a2, vi (3 : Int32), vi (0 : Int32), vi k0] [(.ref a1)])) rfl rfl (hb hby d6_34)
    have go22 : Go p e below s₁ F0 T21 (mkF m 37 #[vr a1, vr a2, vi (1 : Int32), vr a2, vi (3 : Int32), vi (0 : Int32), vi k0] [(.ref w)]) := fun t_ k_ => go20 t_ (st21 t_ k_)
    have go23 : Go p e below s₁ F0 T21 (mkF m 38 #[vr a1, vr a2, vi (1 : Int32), vr a2, vi (3 : Int32), vi (0 : Int32), vi k0] [(.int (1 : Int32)), (.ref w)]) := by
      intro t_ k_
      refine go22 t_ ?_
      refine o_iloadN X21 hx (hb hby d6_37) rfl ?_
      exact k_
    obtain ⟨cl24, Ar24, -, Sz24, Nn24, Hs24, -⟩ := id VL
    have hin24 : ¬ ((1 : Int32) < 0 ∨ cl24.slots.size ≤ ((1 : Int32)).toNatClampNeg) := inb_of Sz24 ⟨by decide, by decide⟩
    have hat24 : cl24.slots[((1 : Int32)).toNatClampNeg]? = some (.int l1) := Hs24.at hin24 rfl
    have go25 : Go p e below s₁ F0 T21 (mkF m 41 #[vr a1, vr a2, vi (1 : Int32), vr a2, vi (3 : Int32), vi (0 : Int32), vi k0] [(.int k0), (.int l1)]) := by
      intro t_ k_
      refine go23 t_ ?_
      refine o_iaload X21 hx hZ e21 Ar24 hin24 hat24 (hb hby d6_38) ?_
      refine o_iload X21 hx (hb hby d6_39) rfl ?_
      exact k_
    by_cases hc41_26 : l1 < k0
    · skip
      have go27 : Go p e below s₁ F0 T21 (mkF m 26 #[vr a1, vr a2, vi (2 : Int32), vr a2, vi (3 : Int32), vi (0 : Int32), vi k0] [(.ref a1), (.int (2 : Int32))]) := by
        intro t_ k_
        refine go25 t_ ?_
        refine o_icmpNo X21 hx (hb hby d6_41) (tlt hc41_26).2.1 ?_
        refine o_iinc X21 hx (hb hby d6_44) rfl (L' := #[vr a1, vr a2, vi (2 : Int32), vr a2, vi (3 : Int32), vi (0 : Int32), vi k0]) rfl ?_
        refine o_goto X21 hx (hb hby d6_47) (pc' := 24) rfl (by decide) ?_
        refine o_iloadN X21 hx (hb hby d6_24) rfl ?_
        refine o_aloadN X21 hx (hb hby d6_25) rfl rfl ?_
        exact k_
      obtain ⟨T28, X28, e28, st28⟩ := getF X21 hx hZ hown (host := "") (Or.inl (own_w hw 26 rfl)) Via.refl e21 Fl (g := (mkF m 26 #[vr a1, vr a2, vi (2 : Int32), vr a2, vi (3 : Int32), vi (0 : Int32), vi k0] [(.ref a1), (.int (2 : Int32))])) rfl rfl (hb hby d6_26)
      have go29 : Go p e below s₁ F0 T28 (mkF m 29 #[vr a1, vr a2, vi (2 : Int32), vr a2, vi (3 : Int32), vi (0 : Int32), vi k0] [(.ref w), (.int (2 : Int32))]) := fun t_ k_ => go27 t_ (st28 t_ k_)
      obtain ⟨cl30, Ar30, -, Sz30, Nn30, -, -⟩ := id VL
      have go31 : Go p e below s₁ F0 T28 (mkF m 52 #[vr a1, vr a2, vi (2 : Int32), vr a2, vi (3 : Int32), vi (0 : Int32), vi k0] [(.ref a1), (.int (2 : Int32))]) := by
        intro t_ k_
        refine go29 t_ ?_
        refine o_len X28 hx hZ e28 Ar30 Sz30 Nn30 (hb hby d6_29) ?_
        refine o_icmpYes X28 hx (hb hby d6_30) (pc' := 50) rfl (by decide) (flt (by decide : ¬ ((2 : Int32) < (2 : Int32)))).2.1 ?_
        refine o_iloadN X28 hx (hb hby d6_50) rfl ?_
        refine o_aloadN X28 hx (hb hby d6_51) rfl rfl ?_
        exact k_
      obtain ⟨T32, X32, e32, st32⟩ := getF X28 hx hZ hown (host := "") (Or.inl (own_w hw 26 rfl)) Via.refl e28 Fl (g := (mkF m 52 #[vr a1, vr a2, vi (2 : Int32), vr a2, vi (3 : Int32), vi (0 : Int32), vi k0] [(.ref a1), (.int (2 : Int32))])) rfl rfl (hb hby d6_52)
      have go33 : Go p e below s₁ F0 T32 (mkF m 55 #[vr a1, vr a2, vi (2 : Int32), vr a2, vi (3 : Int32), vi (0 : Int32), vi k0] [(.ref w), (.int (2 : Int32))]) := fun t_ k_ => go31 t_ (st32 t_ k_)
      obtain ⟨cl34, Ar34, -, Sz34, Nn34, -, -⟩ := id VL
      have go35 : Go p e below s₁ F0 T32 (mkF m 71 #[vr a1, vr a2, vi (2 : Int32), vr a2, vi (3 : Int32), vi (0 : Int32), vi k0] [(.int (0 : Int32))]) := by
        intro t_ k_
        refine go33 t_ ?_
        refine o_len X32 hx hZ e32 Ar34 Sz34 Nn34 (hb hby d6_55) ?_
        refine o_icmpYes X32 hx (hb hby d6_56) (pc' := 70) rfl (by decide) (teq (by decide : (2 : Int32) = (2 : Int32))).1 ?_
        refine o_iconst X32 hx (hb hby d6_70) (v := 0) rfl ?_
        exact k_
      obtain ⟨fs, hr, hrun, hended, hW, hsame⟩ := X32.leave (v := some (.int (0 : Int32))) (fun h => by rw [Bd.returns] at h; cases h)
      refine ⟨_, _, pre0 _ (go35 _ ?_), hrun, hended, _, _, rfl, ?_, ⟨_, rfl⟩, hW, hsame.mono (by decide) (by decide)⟩
      · skip
        exact retN X32 hx (t := .boolean) Bd.returns (by simp) (hb hby d6_71) hr
      · show Q6_2_3 Z a1 a2 w kw kn l0 l1 k0 k1 k2 h0 n0 _ T32.heap _
        rw [e32]
        exact ⟨(congrArg (fun z => some (Value.int z)) (show (0 : Int32) = f6_2_3 l0 l1 k0 k1 k2 from by unfold f6_2_3; rw [if_pos hc41_15, if_pos hc41_26])), N0, rfl⟩
    · skip
      have go36 : Go p e below s₁ F0 T21 (mkF m 52 #[vr a1, vr a2, vi (1 : Int32), vr a2, vi (3 : Int32), vi (0 : Int32), vi k0] [(.ref a1), (.int (1 : Int32))]) := by
        intro t_ k_
        refine go25 t_ ?_
        refine o_icmpYes X21 hx (hb hby d6_41) (pc' := 50) rfl (by decide) (flt hc41_26).2.1 ?_
        refine o_iloadN X21 hx (hb hby d6_50) rfl ?_
        refine o_aloadN X21 hx (hb hby d6_51) rfl rfl ?_
        exact k_
      obtain ⟨T37, X37, e37, st37⟩ := getF X21 hx hZ hown (host := "") (Or.inl (own_w hw 26 rfl)) Via.refl e21 Fl (g := (mkF m 52 #[vr a1, vr a2, vi (1 : Int32), vr a2, vi (3 : Int32), vi (0 : Int32), vi k0] [(.ref a1), (.int (1 : Int32))])) rfl rfl (hb hby d6_52)
      have go38 : Go p e below s₁ F0 T37 (mkF m 55 #[vr a1, vr a2, vi (1 : Int32), vr a2, vi (3 : Int32), vi (0 : Int32), vi k0] [(.ref w), (.int (1 : Int32))]) := fun t_ k_ => go36 t_ (st37 t_ k_)
      obtain ⟨cl39, Ar39, -, Sz39, Nn39, -, -⟩ := id VL
      have go40 : Go p e below s₁ F0 T37 (mkF m 60 #[vr a1, vr a2, vi (1 : Int32), vr a2, vi (3 : Int32), vi (0 : Int32), vi k0] [(.ref a1)]) := by
        intro t_ k_
        refine go38 t_ ?_
        refine o_len X37 hx hZ e37 Ar39 Sz39 Nn39 (hb hby d6_55) ?_
        refine o_icmpNo X37 hx (hb hby d6_56) (feq (by decide : ¬ ((1 : Int32) = (2 : Int32)))).1 ?_
        refine o_aloadN X37 hx (hb hby d6_59) rfl rfl ?_
        exact k_
      obtain ⟨T41, X41, e41, st41⟩ := getF X37 hx hZ hown (host := "") (Or.inl (own_w hw 26 rfl)) Via.refl e37 Fl (g := (mkF m 60 #[vr a1, vr a2, vi (1 : Int32), vr a2, vi (3 : Int32), vi (0 : Int32), vi k0] [(.ref a1)])) rfl rfl (hb hby d6_60)
      have go42 : Go p e below s₁ F0 T41 (mkF m 63 #[vr a1, vr a2, vi (1 : Int32), vr a2, vi (3 : Int32), vi (0 : Int32), vi k0] [(.ref w)]) := fun t_ k_ => go40 t_ (st41 t_ k_)
      have go43 : Go p e below s₁ F0 T41 (mkF m 64 #[vr a1, vr a2, vi (1 : Int32), vr a2, vi (3 : Int32), vi (0 : Int32), vi k0] [(.int (1 : Int32)), (.ref w)]) := by
        intro t_ k_
        refine go42 t_ ?_
        refine o_iloadN X41 hx (hb hby d6_63) rfl ?_
        exact k_
      obtain ⟨cl44, Ar44, -, Sz44, Nn44, Hs44, -⟩ := id VL
      have hin44 : ¬ ((1 : Int32) < 0 ∨ cl44.slots.size ≤ ((1 : Int32)).toNatClampNeg) := inb_of Sz44 ⟨by decide, by decide⟩
      have hat44 : cl44.slots[((1 : Int32)).toNatClampNeg]? = some (.int l1) := Hs44.at hin44 rfl
      have go45 : Go p e below s₁ F0 T41 (mkF m 67 #[vr a1, vr a2, vi (1 : Int32), vr a2, vi (3 : Int32), vi (0 : Int32), vi k0] [(.int k0), (.int l1)]) := by
        intro t_ k_
        refine go43 t_ ?_
        refine o_iaload X41 hx hZ e41 Ar44 hin44 hat44 (hb hby d6_64) ?_
        refine o_iload X41 hx (hb hby d6_65) rfl ?_
        exact k_
      by_cases hc67_46 : l1 = k0
      · skip
        have go47 : Go p e below s₁ F0 T41 (mkF m 21 #[vr a1, vr a2, vi (1 : Int32), vr a2, vi (3 : Int32), vi (1 : Int32), vi k0] [(.int (1 : Int32)), (.ref a2)]) := by
          intro t_ k_
          refine go45 t_ ?_
          refine o_icmpYes X41 hx (hb hby d6_67) (pc' := 72) rfl (by decide) (teq hc67_46).1 ?_
          refine o_iinc X41 hx (hb hby d6_72) rfl (L' := #[vr a1, vr a2, vi (1 : Int32), vr a2, vi (3 : Int32), vi (1 : Int32), vi k0]) rfl ?_
          refine o_goto X41 hx (hb hby d6_75) (pc' := 11) rfl (by decide) ?_
          refine o_iload X41 hx (hb hby d6_11) rfl ?_
          refine o_iload X41 hx (hb hby d6_13) rfl ?_
          refine o_icmpNo X41 hx (hb hby d6_15) (tlt (by decide : (1 : Int32) < (3 : Int32))).2.1 ?_
          refine o_aloadN X41 hx (hb hby d6_18) rfl rfl ?_
          refine o_iload X41 hx (hb hby d6_19) rfl ?_
          exact k_
        obtain ⟨cl48, Ar48, -, Sz48, Nn48, Hs48, -⟩ := id VN
        have hin48 : ¬ ((1 : Int32) < 0 ∨ cl48.slots.size ≤ ((1 : Int32)).toNatClampNeg) := inb_of Sz48 ⟨by decide, by decide⟩
        have hat48 : cl48.slots[((1 : Int32)).toNatClampNeg]? = some (.int k1) := Hs48.at hin48 rfl
        have go49 : Go p e below s₁ F0 T41 (mkF m 26 #[vr a1, vr a2, vi (1 : Int32), vr a2, vi (3 : Int32), vi (1 : Int32), vi k1] [(.ref a1), (.int (1 : Int32))]) := by
          intro t_ k_
          refine go47 t_ ?_
          refine o_iaload X41 hx hZ e41 Ar48 hin48 hat48 (hb hby d6_21) ?_
          refine o_istore X41 hx (hb hby d6_22) (L' := #[vr a1, vr a2, vi (1 : Int32), vr a2, vi (3 : Int32), vi (1 : Int32), vi k1]) rfl ?_
          refine o_iloadN X41 hx (hb hby d6_24) rfl ?_
          refine o_aloadN X41 hx (hb hby d6_25) rfl rfl ?_
          exact k_
        obtain ⟨T50, X50, e50, st50⟩ := getF X41 hx hZ hown (host := "") (Or.inl (own_w hw 26 rfl)) Via.refl e41 Fl (g := (mkF m 26 #[vr a1, vr a2, vi (1 : Int32), vr a2, vi (3 : Int32), vi (1 : Int32), vi k1] [(.ref a1), (.int (1 : Int32))])) rfl rfl (hb hby d6_26)
        have go51 : Go p e below s₁ F0 T50 (mkF m 29 #[vr a1, vr a2, vi (1 : Int32), vr a2, vi (3 : Int32), vi (1 : Int32), vi k1] [(.ref w), (.int (1 : Int32))]) := fun t_ k_ => go49 t_ (st50 t_ k_)
        obtain ⟨cl52, Ar52, -, Sz52, Nn52, -, -⟩ := id VL
        have go53 : Go p e below s₁ F0 T50 (mkF m 34 #[vr a1, vr a2, vi (1 : Int32), vr a2, vi (3 : Int32), vi (1 : Int32), vi k1] [(.ref a1)]) := by
          intro t_ k_
          refine go51 t_ ?_
          refine o_len X50 hx hZ e50 Ar52 Sz52 Nn52 (hb hby d6_29) ?_
          refine o_icmpNo X50 hx (hb hby d6_30) (tlt (by decide : (1 : Int32) < (2 : Int32))).2.1 ?_
          refine o_aloadN X50 hx (hb hby d6_33) rfl rfl ?_
          exact k_
        obtain ⟨T54, X54, e54, st54⟩ := getF X50 hx hZ hown (host := "") (Or.inl (own_w hw 26 rfl)) Via.refl e50 Fl (g := (mkF m 34 #[vr a1, vr a2, vi (1 : Int32), vr a2, vi (3 : Int32), vi (1 : Int32), vi k1] [(.ref a1)])) rfl rfl (hb hby d6_34)
        have go55 : Go p e below s₁ F0 T54 (mkF m 37 #[vr a1, vr a2, vi (1 : Int32), vr a2, vi (3 : Int32), vi (1 : Int32), vi k1] [(.ref w)]) := fun t_ k_ => go53 t_ (st54 t_ k_)
        have go56 : Go p e below s₁ F0 T54 (mkF m 38 #[vr a1, vr a2, vi (1 : Int32), vr a2, vi (3 : Int32), vi (1 : Int32), vi k1] [(.int (1 : Int32)), (.ref w)]) := by
          intro t_ k_
          refine go55 t_ ?_
          refine o_iloadN X54 hx (hb hby d6_37) rfl ?_
          exact k_
        obtain ⟨cl57, Ar57, -, Sz57, Nn57, Hs57, -⟩ := id VL
        have hin57 : ¬ ((1 : Int32) < 0 ∨ cl57.slots.size ≤ ((1 : Int32)).toNatClampNeg) := inb_of Sz57 ⟨by decide, by decide⟩
        have hat57 : cl57.slots[((1 : Int32)).toNatClampNeg]? = some (.int l1) := Hs57.at hin57 rfl
        have go59 : Go p e below s₁ F0 T54 (mkF m 41 #[vr a1, vr a2, vi (1 : Int32), vr a2, vi (3 : Int32), vi (1 : Int32), vi k1] [(.int k1), (.int l1)]) := by
          intro t_ k_
          refine go56 t_ ?_
          refine o_iaload X54 hx hZ e54 Ar57 hin57 hat57 (hb hby d6_38) ?_
          refine o_iload X54 hx (hb hby d6_39) rfl ?_
          exact k_
        have hd58 : l1 < k1 := (by rw [hc67_46]; exact s0)
        have go60 : Go p e below s₁ F0 T54 (mkF m 26 #[vr a1, vr a2, vi (2 : Int32), vr a2, vi (3 : Int32), vi (1 : Int32), vi k1] [(.ref a1), (.int (2 : Int32))]) := by
          intro t_ k_
          refine go59 t_ ?_
          refine o_icmpNo X54 hx (hb hby d6_41) (tlt hd58).2.1 ?_
          refine o_iinc X54 hx (hb hby d6_44) rfl (L' := #[vr a1, vr a2, vi (2 : Int32), vr a2, vi (3 : Int32), vi (1 : Int32), vi k1]) rfl ?_
          refine o_goto X54 hx (hb hby d6_47) (pc' := 24) rfl (by decide) ?_
          refine o_iloadN X54 hx (hb hby d6_24) rfl ?_
          refine o_aloadN X54 hx (hb hby d6_25) rfl rfl ?_
          exact k_
        obtain ⟨T61, X61, e61, st61⟩ := getF X54 hx hZ hown (host := "") (Or.inl (own_w hw 26 rfl)) Via.refl e54 Fl (g := (mkF m 26 #[vr a1, vr a2, vi (2 : Int32), vr a2, vi (3 : Int32), vi (1 : Int32), vi k1] [(.ref a1), (.int (2 : Int32))])) rfl rfl (hb hby d6_26)
        have go62 : Go p e below s₁ F0 T61 (mkF m 29 #[vr a1, vr a2, vi (2 : Int32), vr a2, vi (3 : Int32), vi (1 : Int32), vi k1] [(.ref w), (.int (2 : Int32))]) := fun t_ k_ => go60 t_ (st61 t_ k_)
        obtain ⟨cl63, Ar63, -, Sz63, Nn63, -, -⟩ := id VL
        have go64 : Go p e below s₁ F0 T61 (mkF m 52 #[vr a1, vr a2, vi (2 : Int32), vr a2, vi (3 : Int32), vi (1 : Int32), vi k1] [(.ref a1), (.int (2 : Int32))]) := by
          intro t_ k_
          refine go62 t_ ?_
          refine o_len X61 hx hZ e61 Ar63 Sz63 Nn63 (hb hby d6_29) ?_
          refine o_icmpYes X61 hx (hb hby d6_30) (pc' := 50) rfl (by decide) (flt (by decide : ¬ ((2 : Int32) < (2 : Int32)))).2.1 ?_
          refine o_iloadN X61 hx (hb hby d6_50) rfl ?_
          refine o_aloadN X61 hx (hb hby d6_51) rfl rfl ?_
          exact k_
        obtain ⟨T65, X65, e65, st65⟩ := getF X61 hx hZ hown (host := "") (Or.inl (own_w hw 26 rfl)) Via.refl e61 Fl (g := (mkF m 52 #[vr a1, vr a2, vi (2 : Int32), vr a2, vi (3 : Int32), vi (1 : Int32), vi k1] [(.ref a1), (.int (2 : Int32))])) rfl rfl (hb hby d6_52)
        have go66 : Go p e below s₁ F0 T65 (mkF m 55 #[vr a1, vr a2, vi (2 : Int32), vr a2, vi (3 : Int32), vi (1 : Int32), vi k1] [(.ref w), (.int (2 : Int32))]) := fun t_ k_ => go64 t_ (st65 t_ k_)
        obtain ⟨cl67, Ar67, -, Sz67, Nn67, -, -⟩ := id VL
        have go68 : Go p e below s₁ F0 T65 (mkF m 71 #[vr a1, vr a2, vi (2 : Int32), vr a2, vi (3 : Int32), vi (1 : Int32), vi k1] [(.int (0 : Int32))]) := by
          intro t_ k_
          refine go66 t_ ?_
          refine o_len X65 hx hZ e65 Ar67 Sz67 Nn67 (hb hby d6_55) ?_
          refine o_icmpYes X65 hx (hb hby d6_56) (pc' := 70) rfl (by decide) (teq (by decide : (2 : Int32) = (2 : Int32))).1 ?_
          refine o_iconst X65 hx (hb hby d6_70) (v := 0) rfl ?_
          exact k_
        obtain ⟨fs, hr, hrun, hended, hW, hsame⟩ := X65.leave (v := some (.int (0 : Int32))) (fun h => by rw [Bd.returns] at h; cases h)
        refine ⟨_, _, pre0 _ (go68 _ ?_), hrun, hended, _, _, rfl, ?_, ⟨_, rfl⟩, hW, hsame.mono (by decide) (by decide)⟩
        · skip
          exact retN X65 hx (t := .boolean) Bd.returns (by simp) (hb hby d6_71) hr
        · show Q6_2_3 Z a1 a2 w kw kn l0 l1 k0 k1 k2 h0 n0 _ T65.heap _
          rw [e65]
          exact ⟨(congrArg (fun z => some (Value.int z)) (show (0 : Int32) = f6_2_3 l0 l1 k0 k1 k2 from by unfold f6_2_3; rw [if_pos hc41_15, if_neg hc41_26, if_pos hc67_46])), N0, rfl⟩
      · skip
        have go69 : Go p e below s₁ F0 T41 (mkF m 71 #[vr a1, vr a2, vi (1 : Int32), vr a2, vi (3 : Int32), vi (0 : Int32), vi k0] [(.int (0 : Int32))]) := by
          intro t_ k_
          refine go45 t_ ?_
          refine o_icmpNo X41 hx (hb hby d6_67) (feq hc67_46).1 ?_
          refine o_iconst X41 hx (hb hby d6_70) (v := 0) rfl ?_
          exact k_
        obtain ⟨fs, hr, hrun, hended, hW, hsame⟩ := X41.leave (v := some (.int (0 : Int32))) (fun h => by rw [Bd.returns] at h; cases h)
        refine ⟨_, _, pre0 _ (go69 _ ?_), hrun, hended, _, _, rfl, ?_, ⟨_, rfl⟩, hW, hsame.mono (by decide) (by decide)⟩
        · skip
          exact retN X41 hx (t := .boolean) Bd.returns (by simp) (hb hby d6_71) hr
        · show Q6_2_3 Z a1 a2 w kw kn l0 l1 k0 k1 k2 h0 n0 _ T41.heap _
          rw [e41]
          exact ⟨(congrArg (fun z => some (Value.int z)) (show (0 : Int32) = f6_2_3 l0 l1 k0 k1 k2 from by unfold f6_2_3; rw [if_pos hc41_15, if_neg hc41_26, if_neg hc67_46])), N0, rfl⟩
  · skip
    have go70 : Go p e below s₁ F0 T10 (mkF m 52 #[vr a1, vr a2, vi (0 : Int32), vr a2, vi (3 : Int32), vi (0 : Int32), vi k0] [(.ref a1), (.int (0 : Int32))]) := by
      intro t_ k_
      refine go14 t_ ?_
      refine o_icmpYes X10 hx (hb hby d6_41) (pc' := 50) rfl (by decide) (flt hc41_15).2.1 ?_
      refine o_iloadN X10 hx (hb hby d6_50) rfl ?_
      refine o_aloadN X10 hx (hb hby d6_51) rfl rfl ?_
      exact k_
    obtain ⟨T71, X71, e71, st71⟩ := getF X10 hx hZ hown (host := "") (Or.inl (own_w hw 26 rfl)) Via.refl e10 Fl (g := (mkF m 52 #[vr a1, vr a2, vi (0 : Int32), vr a2, vi (3 : Int32), vi (0 : Int32), vi k0] [(.ref a1), (.int (0 : Int32))])) rfl rfl (hb hby d6_52)
    have go72 : Go p e below s₁ F0 T71 (mkF m 55 #[vr a1, vr a2, vi (0 : Int32), vr a2, vi (3 : Int32), vi (0 : Int32), vi k0] [(.ref w), (.int (0 : Int32))]) := fun t_ k_ => go70 t_ (st71 t_ k_)
    obtain ⟨cl73, Ar73, -, Sz73, Nn73, -, -⟩ := id VL
    have go74 : Go p e below s₁ F0 T71 (mkF m 60 #[vr a1, vr a2, vi (0 : Int32), vr a2, vi (3 : Int32), vi (0 : Int32), vi k0] [(.ref a1)]) := by
      intro t_ k_
      refine go72 t_ ?_
      refine o_len X71 hx hZ e71 Ar73 Sz73 Nn73 (hb hby d6_55) ?_
      refine o_icmpNo X71 hx (hb hby d6_56) (feq (by decide : ¬ ((0 : Int32) = (2 : Int32)))).1 ?_
      refine o_aloadN X71 hx (hb hby d6_59) rfl rfl ?_
      exact k_
    obtain ⟨T75, X75, e75, st75⟩ := getF X71 hx hZ hown (host := "") (Or.inl (own_w hw 26 rfl)) Via.refl e71 Fl (g := (mkF m 60 #[vr a1, vr a2, vi (0 : Int32), vr a2, vi (3 : Int32), vi (0 : Int32), vi k0] [(.ref a1)])) rfl rfl (hb hby d6_60)
    have go76 : Go p e below s₁ F0 T75 (mkF m 63 #[vr a1, vr a2, vi (0 : Int32), vr a2, vi (3 : Int32), vi (0 : Int32), vi k0] [(.ref w)]) := fun t_ k_ => go74 t_ (st75 t_ k_)
    have go77 : Go p e below s₁ F0 T75 (mkF m 64 #[vr a1, vr a2, vi (0 : Int32), vr a2, vi (3 : Int32), vi (0 : Int32), vi k0] [(.int (0 : Int32)), (.ref w)]) := by
      intro t_ k_
      refine go76 t_ ?_
      refine o_iloadN X75 hx (hb hby d6_63) rfl ?_
      exact k_
    obtain ⟨cl78, Ar78, -, Sz78, Nn78, Hs78, -⟩ := id VL
    have hin78 : ¬ ((0 : Int32) < 0 ∨ cl78.slots.size ≤ ((0 : Int32)).toNatClampNeg) := inb_of Sz78 ⟨by decide, by decide⟩
    have hat78 : cl78.slots[((0 : Int32)).toNatClampNeg]? = some (.int l0) := Hs78.at hin78 rfl
    have go79 : Go p e below s₁ F0 T75 (mkF m 67 #[vr a1, vr a2, vi (0 : Int32), vr a2, vi (3 : Int32), vi (0 : Int32), vi k0] [(.int k0), (.int l0)]) := by
      intro t_ k_
      refine go77 t_ ?_
      refine o_iaload X75 hx hZ e75 Ar78 hin78 hat78 (hb hby d6_64) ?_
      refine o_iload X75 hx (hb hby d6_65) rfl ?_
      exact k_
    by_cases hc67_80 : l0 = k0
    · skip
      have go81 : Go p e below s₁ F0 T75 (mkF m 21 #[vr a1, vr a2, vi (0 : Int32), vr a2, vi (3 : Int32), vi (1 : Int32), vi k0] [(.int (1 : Int32)), (.ref a2)]) := by
        intro t_ k_
        refine go79 t_ ?_
        refine o_icmpYes X75 hx (hb hby d6_67) (pc' := 72) rfl (by decide) (teq hc67_80).1 ?_
        refine o_iinc X75 hx (hb hby d6_72) rfl (L' := #[vr a1, vr a2, vi (0 : Int32), vr a2, vi (3 : Int32), vi (1 : Int32), vi k0]) rfl ?_
        refine o_goto X75 hx (hb hby d6_75) (pc' := 11) rfl (by decide) ?_
        refine o_iload X75 hx (hb hby d6_11) rfl ?_
        refine o_iload X75 hx (hb hby d6_13) rfl ?_
        refine o_icmpNo X75 hx (hb hby d6_15) (tlt (by decide : (1 : Int32) < (3 : Int32))).2.1 ?_
        refine o_aloadN X75 hx (hb hby d6_18) rfl rfl ?_
        refine o_iload X75 hx (hb hby d6_19) rfl ?_
        exact k_
      obtain ⟨cl82, Ar82, -, Sz82, Nn82, Hs82, -⟩ := id VN
      have hin82 : ¬ ((1 : Int32) < 0 ∨ cl82.slots.size ≤ ((1 : Int32)).toNatClampNeg) := inb_of Sz82 ⟨by decide, by decide⟩
      have hat82 : cl82.slots[((1 : Int32)).toNatClampNeg]? = some (.int k1) := Hs82.at hin82 rfl
      have go83 : Go p e below s₁ F0 T75 (mkF m 26 #[vr a1, vr a2, vi (0 : Int32), vr a2, vi (3 : Int32), vi (1 : Int32), vi k1] [(.ref a1), (.int (0 : Int32))]) := by
        intro t_ k_
        refine go81 t_ ?_
        refine o_iaload X75 hx hZ e75 Ar82 hin82 hat82 (hb hby d6_21) ?_
        refine o_istore X75 hx (hb hby d6_22) (L' := #[vr a1, vr a2, vi (0 : Int32), vr a2, vi (3 : Int32), vi (1 : Int32), vi k1]) rfl ?_
        refine o_iloadN X75 hx (hb hby d6_24) rfl ?_
        refine o_aloadN X75 hx (hb hby d6_25) rfl rfl ?_
        exact k_
      obtain ⟨T84, X84, e84, st84⟩ := getF X75 hx hZ hown (host := "") (Or.inl (own_w hw 26 rfl)) Via.refl e75 Fl (g := (mkF m 26 #[vr a1, vr a2, vi (0 : Int32), vr a2, vi (3 : Int32), vi (1 : Int32), vi k1] [(.ref a1), (.int (0 : Int32))])) rfl rfl (hb hby d6_26)
      have go85 : Go p e below s₁ F0 T84 (mkF m 29 #[vr a1, vr a2, vi (0 : Int32), vr a2, vi (3 : Int32), vi (1 : Int32), vi k1] [(.ref w), (.int (0 : Int32))]) := fun t_ k_ => go83 t_ (st84 t_ k_)
      obtain ⟨cl86, Ar86, -, Sz86, Nn86, -, -⟩ := id VL
      have go87 : Go p e below s₁ F0 T84 (mkF m 34 #[vr a1, vr a2, vi (0 : Int32), vr a2, vi (3 : Int32), vi (1 : Int32), vi k1] [(.ref a1)]) := by
        intro t_ k_
        refine go85 t_ ?_
        refine o_len X84 hx hZ e84 Ar86 Sz86 Nn86 (hb hby d6_29) ?_
        refine o_icmpNo X84 hx (hb hby d6_30) (tlt (by decide : (0 : Int32) < (2 : Int32))).2.1 ?_
        refine o_aloadN X84 hx (hb hby d6_33) rfl rfl ?_
        exact k_
      obtain ⟨T88, X88, e88, st88⟩ := getF X84 hx hZ hown (host := "") (Or.inl (own_w hw 26 rfl)) Via.refl e84 Fl (g := (mkF m 34 #[vr a1, vr a2, vi (0 : Int32), vr a2, vi (3 : Int32), vi (1 : Int32), vi k1] [(.ref a1)])) rfl rfl (hb hby d6_34)
      have go89 : Go p e below s₁ F0 T88 (mkF m 37 #[vr a1, vr a2, vi (0 : Int32), vr a2, vi (3 : Int32), vi (1 : Int32), vi k1] [(.ref w)]) := fun t_ k_ => go87 t_ (st88 t_ k_)
      have go90 : Go p e below s₁ F0 T88 (mkF m 38 #[vr a1, vr a2, vi (0 : Int32), vr a2, vi (3 : Int32), vi (1 : Int32), vi k1] [(.int (0 : Int32)), (.ref w)]) := by
        intro t_ k_
        refine go89 t_ ?_
        refine o_iloadN X88 hx (hb hby d6_37) rfl ?_
        exact k_
      obtain ⟨cl91, Ar91, -, Sz91, Nn91, Hs91, -⟩ := id VL
      have hin91 : ¬ ((0 : Int32) < 0 ∨ cl91.slots.size ≤ ((0 : Int32)).toNatClampNeg) := inb_of Sz91 ⟨by decide, by decide⟩
      have hat91 : cl91.slots[((0 : Int32)).toNatClampNeg]? = some (.int l0) := Hs91.at hin91 rfl
      have go93 : Go p e below s₁ F0 T88 (mkF m 41 #[vr a1, vr a2, vi (0 : Int32), vr a2, vi (3 : Int32), vi (1 : Int32), vi k1] [(.int k1), (.int l0)]) := by
        intro t_ k_
        refine go90 t_ ?_
        refine o_iaload X88 hx hZ e88 Ar91 hin91 hat91 (hb hby d6_38) ?_
        refine o_iload X88 hx (hb hby d6_39) rfl ?_
        exact k_
      have hd92 : l0 < k1 := (by rw [hc67_80]; exact s0)
      have go94 : Go p e below s₁ F0 T88 (mkF m 26 #[vr a1, vr a2, vi (1 : Int32), vr a2, vi (3 : Int32), vi (1 : Int32), vi k1] [(.ref a1), (.int (1 : Int32))]) := by
        intro t_ k_
        refine go93 t_ ?_
        refine o_icmpNo X88 hx (hb hby d6_41) (tlt hd92).2.1 ?_
        refine o_iinc X88 hx (hb hby d6_44) rfl (L' := #[vr a1, vr a2, vi (1 : Int32), vr a2, vi (3 : Int32), vi (1 : Int32), vi k1]) rfl ?_
        refine o_goto X88 hx (hb hby d6_47) (pc' := 24) rfl (by decide) ?_
        refine o_iloadN X88 hx (hb hby d6_24) rfl ?_
        refine o_aloadN X88 hx (hb hby d6_25) rfl rfl ?_
        exact k_
      obtain ⟨T95, X95, e95, st95⟩ := getF X88 hx hZ hown (host := "") (Or.inl (own_w hw 26 rfl)) Via.refl e88 Fl (g := (mkF m 26 #[vr a1, vr a2, vi (1 : Int32), vr a2, vi (3 : Int32), vi (1 : Int32), vi k1] [(.ref a1), (.int (1 : Int32))])) rfl rfl (hb hby d6_26)
      have go96 : Go p e below s₁ F0 T95 (mkF m 29 #[vr a1, vr a2, vi (1 : Int32), vr a2, vi (3 : Int32), vi (1 : Int32), vi k1] [(.ref w), (.int (1 : Int32))]) := fun t_ k_ => go94 t_ (st95 t_ k_)
      obtain ⟨cl97, Ar97, -, Sz97, Nn97, -, -⟩ := id VL
      have go98 : Go p e below s₁ F0 T95 (mkF m 34 #[vr a1, vr a2, vi (1 : Int32), vr a2, vi (3 : Int32), vi (1 : Int32), vi k1] [(.ref a1)]) := by
        intro t_ k_
        refine go96 t_ ?_
        refine o_len X95 hx hZ e95 Ar97 Sz97 Nn97 (hb hby d6_29) ?_
        refine o_icmpNo X95 hx (hb hby d6_30) (tlt (by decide : (1 : Int32) < (2 : Int32))).2.1 ?_
        refine o_aloadN X95 hx (hb hby d6_33) rfl rfl ?_
        exact k_
      obtain ⟨T99, X99, e99, st99⟩ := getF X95 hx hZ hown (host := "") (Or.inl (own_w hw 26 rfl)) Via.refl e95 Fl (g := (mkF m 34 #[vr a1, vr a2, vi (1 : Int32), vr a2, vi (3 : Int32), vi (1 : Int32), vi k1] [(.ref a1)])) rfl rfl (hb hby d6_34)
      have go100 : Go p e below s₁ F0 T99 (mkF m 37 #[vr a1, vr a2, vi (1 : Int32), vr a2, vi (3 : Int32), vi (1 : Int32), vi k1] [(.ref w)]) := fun t_ k_ => go98 t_ (st99 t_ k_)
      have go101 : Go p e below s₁ F0 T99 (mkF m 38 #[vr a1, vr a2, vi (1 : Int32), vr a2, vi (3 : Int32), vi (1 : Int32), vi k1] [(.int (1 : Int32)), (.ref w)]) := by
        intro t_ k_
        refine go100 t_ ?_
        refine o_iloadN X99 hx (hb hby d6_37) rfl ?_
        exact k_
      obtain ⟨cl102, Ar102, -, Sz102, Nn102, Hs102, -⟩ := id VL
      have hin102 : ¬ ((1 : Int32) < 0 ∨ cl102.slots.size ≤ ((1 : Int32)).toNatClampNeg) := inb_of Sz102 ⟨by decide, by decide⟩
      have hat102 : cl102.slots[((1 : Int32)).toNatClampNeg]? = some (.int l1) := Hs102.at hin102 rfl
      have go103 : Go p e below s₁ F0 T99 (mkF m 41 #[vr a1, vr a2, vi (1 : Int32), vr a2, vi (3 : Int32), vi (1 : Int32), vi k1] [(.int k1), (.int l1)]) := by
        intro t_ k_
        refine go101 t_ ?_
        refine o_iaload X99 hx hZ e99 Ar102 hin102 hat102 (hb hby d6_38) ?_
        refine o_iload X99 hx (hb hby d6_39) rfl ?_
        exact k_
      by_cases hc41_104 : l1 < k1
      · skip
        have go105 : Go p e below s₁ F0 T99 (mkF m 26 #[vr a1, vr a2, vi (2 : Int32), vr a2, vi (3 : Int32), vi (1 : Int32), vi k1] [(.ref a1), (.int (2 : Int32))]) := by
          intro t_ k_
          refine go103 t_ ?_
          refine o_icmpNo X99 hx (hb hby d6_41) (tlt hc41_104).2.1 ?_
          refine o_iinc X99 hx (hb hby d6_44) rfl (L' := #[vr a1, vr a2, vi (2 : Int32), vr a2, vi (3 : Int32), vi (1 : Int32), vi k1]) rfl ?_
          refine o_goto X99 hx (hb hby d6_47) (pc' := 24) rfl (by decide) ?_
          refine o_iloadN X99 hx (hb hby d6_24) rfl ?_
          refine o_aloadN X99 hx (hb hby d6_25) rfl rfl ?_
          exact k_
        obtain ⟨T106, X106, e106, st106⟩ := getF X99 hx hZ hown (host := "") (Or.inl (own_w hw 26 rfl)) Via.refl e99 Fl (g := (mkF m 26 #[vr a1, vr a2, vi (2 : Int32), vr a2, vi (3 : Int32), vi (1 : Int32), vi k1] [(.ref a1), (.int (2 : Int32))])) rfl rfl (hb hby d6_26)
        have go107 : Go p e below s₁ F0 T106 (mkF m 29 #[vr a1, vr a2, vi (2 : Int32), vr a2, vi (3 : Int32), vi (1 : Int32), vi k1] [(.ref w), (.int (2 : Int32))]) := fun t_ k_ => go105 t_ (st106 t_ k_)
        obtain ⟨cl108, Ar108, -, Sz108, Nn108, -, -⟩ := id VL
        have go109 : Go p e below s₁ F0 T106 (mkF m 52 #[vr a1, vr a2, vi (2 : Int32), vr a2, vi (3 : Int32), vi (1 : Int32), vi k1] [(.ref a1), (.int (2 : Int32))]) := by
          intro t_ k_
          refine go107 t_ ?_
          refine o_len X106 hx hZ e106 Ar108 Sz108 Nn108 (hb hby d6_29) ?_
          refine o_icmpYes X106 hx (hb hby d6_30) (pc' := 50) rfl (by decide) (flt (by decide : ¬ ((2 : Int32) < (2 : Int32)))).2.1 ?_
          refine o_iloadN X106 hx (hb hby d6_50) rfl ?_
          refine o_aloadN X106 hx (hb hby d6_51) rfl rfl ?_
          exact k_
        obtain ⟨T110, X110, e110, st110⟩ := getF X106 hx hZ hown (host := "") (Or.inl (own_w hw 26 rfl)) Via.refl e106 Fl (g := (mkF m 52 #[vr a1, vr a2, vi (2 : Int32), vr a2, vi (3 : Int32), vi (1 : Int32), vi k1] [(.ref a1), (.int (2 : Int32))])) rfl rfl (hb hby d6_52)
        have go111 : Go p e below s₁ F0 T110 (mkF m 55 #[vr a1, vr a2, vi (2 : Int32), vr a2, vi (3 : Int32), vi (1 : Int32), vi k1] [(.ref w), (.int (2 : Int32))]) := fun t_ k_ => go109 t_ (st110 t_ k_)
        obtain ⟨cl112, Ar112, -, Sz112, Nn112, -, -⟩ := id VL
        have go113 : Go p e below s₁ F0 T110 (mkF m 71 #[vr a1, vr a2, vi (2 : Int32), vr a2, vi (3 : Int32), vi (1 : Int32), vi k1] [(.int (0 : Int32))]) := by
          intro t_ k_
          refine go111 t_ ?_
          refine o_len X110 hx hZ e110 Ar112 Sz112 Nn112 (hb hby d6_55) ?_
          refine o_icmpYes X110 hx (hb hby d6_56) (pc' := 70) rfl (by decide) (teq (by decide : (2 : Int32) = (2 : Int32))).1 ?_
          refine o_iconst X110 hx (hb hby d6_70) (v := 0) rfl ?_
          exact k_
        obtain ⟨fs, hr, hrun, hended, hW, hsame⟩ := X110.leave (v := some (.int (0 : Int32))) (fun h => by rw [Bd.returns] at h; cases h)
        refine ⟨_, _, pre0 _ (go113 _ ?_), hrun, hended, _, _, rfl, ?_, ⟨_, rfl⟩, hW, hsame.mono (by decide) (by decide)⟩
        · skip
          exact retN X110 hx (t := .boolean) Bd.returns (by simp) (hb hby d6_71) hr
        · show Q6_2_3 Z a1 a2 w kw kn l0 l1 k0 k1 k2 h0 n0 _ T110.heap _
          rw [e110]
          exact ⟨(congrArg (fun z => some (Value.int z)) (show (0 : Int32) = f6_2_3 l0 l1 k0 k1 k2 from by unfold f6_2_3; rw [if_neg hc41_15, if_pos hc67_80, if_pos hc41_104])), N0, rfl⟩
      · skip
        have go114 : Go p e below s₁ F0 T99 (mkF m 52 #[vr a1, vr a2, vi (1 : Int32), vr a2, vi (3 : Int32), vi (1 : Int32), vi k1] [(.ref a1), (.int (1 : Int32))]) := by
          intro t_ k_
          refine go103 t_ ?_
          refine o_icmpYes X99 hx (hb hby d6_41) (pc' := 50) rfl (by decide) (flt hc41_104).2.1 ?_
          refine o_iloadN X99 hx (hb hby d6_50) rfl ?_
          refine o_aloadN X99 hx (hb hby d6_51) rfl rfl ?_
          exact k_
        obtain ⟨T115, X115, e115, st115⟩ := getF X99 hx hZ hown (host := "") (Or.inl (own_w hw 26 rfl)) Via.refl e99 Fl (g := (mkF m 52 #[vr a1, vr a2, vi (1 : Int32), vr a2, vi (3 : Int32), vi (1 : Int32), vi k1] [(.ref a1), (.int (1 : Int32))])) rfl rfl (hb hby d6_52)
        have go116 : Go p e below s₁ F0 T115 (mkF m 55 #[vr a1, vr a2, vi (1 : Int32), vr a2, vi (3 : Int32), vi (1 : Int32), vi k1] [(.ref w), (.int (1 : Int32))]) := fun t_ k_ => go114 t_ (st115 t_ k_)
        obtain ⟨cl117, Ar117, -, Sz117, Nn117, -, -⟩ := id VL
        have go118 : Go p e below s₁ F0 T115 (mkF m 60 #[vr a1, vr a2, vi (1 : Int32), vr a2, vi (3 : Int32), vi (1 : Int32), vi k1] [(.ref a1)]) := by
          intro t_ k_
          refine go116 t_ ?_
          refine o_len X115 hx hZ e115 Ar117 Sz117 Nn117 (hb hby d6_55) ?_
          refine o_icmpNo X115 hx (hb hby d6_56) (feq (by decide : ¬ ((1 : Int32) = (2 : Int32)))).1 ?_
          refine o_aloadN X115 hx (hb hby d6_59) rfl rfl ?_
          exact k_
        obtain ⟨T119, X119, e119, st119⟩ := getF X115 hx hZ hown (host := "") (Or.inl (own_w hw 26 rfl)) Via.refl e115 Fl (g := (mkF m 60 #[vr a1, vr a2, vi (1 : Int32), vr a2, vi (3 : Int32), vi (1 : Int32), vi k1] [(.ref a1)])) rfl rfl (hb hby d6_60)
        have go120 : Go p e below s₁ F0 T119 (mkF m 63 #[vr a1, vr a2, vi (1 : Int32), vr a2, vi (3 : Int32), vi (1 : Int32), vi k1] [(.ref w)]) := fun t_ k_ => go118 t_ (st119 t_ k_)
        have go121 : Go p e below s₁ F0 T119 (mkF m 64 #[vr a1, vr a2, vi (1 : Int32), vr a2, vi (3 : Int32), vi (1 : Int32), vi k1] [(.int (1 : Int32)), (.ref w)]) := by
          intro t_ k_
          refine go120 t_ ?_
          refine o_iloadN X119 hx (hb hby d6_63) rfl ?_
          exact k_
        obtain ⟨cl122, Ar122, -, Sz122, Nn122, Hs122, -⟩ := id VL
        have hin122 : ¬ ((1 : Int32) < 0 ∨ cl122.slots.size ≤ ((1 : Int32)).toNatClampNeg) := inb_of Sz122 ⟨by decide, by decide⟩
        have hat122 : cl122.slots[((1 : Int32)).toNatClampNeg]? = some (.int l1) := Hs122.at hin122 rfl
        have go123 : Go p e below s₁ F0 T119 (mkF m 67 #[vr a1, vr a2, vi (1 : Int32), vr a2, vi (3 : Int32), vi (1 : Int32), vi k1] [(.int k1), (.int l1)]) := by
          intro t_ k_
          refine go121 t_ ?_
          refine o_iaload X119 hx hZ e119 Ar122 hin122 hat122 (hb hby d6_64) ?_
          refine o_iload X119 hx (hb hby d6_65) rfl ?_
          exact k_
        by_cases hc67_124 : l1 = k1
        · skip
          have go125 : Go p e below s₁ F0 T119 (mkF m 21 #[vr a1, vr a2, vi (1 : Int32), vr a2, vi (3 : Int32), vi (2 : Int32), vi k1] [(.int (2 : Int32)), (.ref a2)]) := by
            intro t_ k_
            refine go123 t_ ?_
            refine o_icmpYes X119 hx (hb hby d6_67) (pc' := 72) rfl (by decide) (teq hc67_124).1 ?_
            refine o_iinc X119 hx (hb hby d6_72) rfl (L' := #[vr a1, vr a2, vi (1 : Int32), vr a2, vi (3 : Int32), vi (2 : Int32), vi k1]) rfl ?_
            refine o_goto X119 hx (hb hby d6_75) (pc' := 11) rfl (by decide) ?_
            refine o_iload X119 hx (hb hby d6_11) rfl ?_
            refine o_iload X119 hx (hb hby d6_13) rfl ?_
            refine o_icmpNo X119 hx (hb hby d6_15) (tlt (by decide : (2 : Int32) < (3 : Int32))).2.1 ?_
            refine o_aloadN X119 hx (hb hby d6_18) rfl rfl ?_
            refine o_iload X119 hx (hb hby d6_19) rfl ?_
            exact k_
          obtain ⟨cl126, Ar126, -, Sz126, Nn126, Hs126, -⟩ := id VN
          have hin126 : ¬ ((2 : Int32) < 0 ∨ cl126.slots.size ≤ ((2 : Int32)).toNatClampNeg) := inb_of Sz126 ⟨by decide, by decide⟩
          have hat126 : cl126.slots[((2 : Int32)).toNatClampNeg]? = some (.int k2) := Hs126.at hin126 rfl
          have go127 : Go p e below s₁ F0 T119 (mkF m 26 #[vr a1, vr a2, vi (1 : Int32), vr a2, vi (3 : Int32), vi (2 : Int32), vi k2] [(.ref a1), (.int (1 : Int32))]) := by
            intro t_ k_
            refine go125 t_ ?_
            refine o_iaload X119 hx hZ e119 Ar126 hin126 hat126 (hb hby d6_21) ?_
            refine o_istore X119 hx (hb hby d6_22) (L' := #[vr a1, vr a2, vi (1 : Int32), vr a2, vi (3 : Int32), vi (2 : Int32), vi k2]) rfl ?_
            refine o_iloadN X119 hx (hb hby d6_24) rfl ?_
            refine o_aloadN X119 hx (hb hby d6_25) rfl rfl ?_
            exact k_
          obtain ⟨T128, X128, e128, st128⟩ := getF X119 hx hZ hown (host := "") (Or.inl (own_w hw 26 rfl)) Via.refl e119 Fl (g := (mkF m 26 #[vr a1, vr a2, vi (1 : Int32), vr a2, vi (3 : Int32), vi (2 : Int32), vi k2] [(.ref a1), (.int (1 : Int32))])) rfl rfl (hb hby d6_26)
          have go129 : Go p e below s₁ F0 T128 (mkF m 29 #[vr a1, vr a2, vi (1 : Int32), vr a2, vi (3 : Int32), vi (2 : Int32), vi k2] [(.ref w), (.int (1 : Int32))]) := fun t_ k_ => go127 t_ (st128 t_ k_)
          obtain ⟨cl130, Ar130, -, Sz130, Nn130, -, -⟩ := id VL
          have go131 : Go p e below s₁ F0 T128 (mkF m 34 #[vr a1, vr a2, vi (1 : Int32), vr a2, vi (3 : Int32), vi (2 : Int32), vi k2] [(.ref a1)]) := by
            intro t_ k_
            refine go129 t_ ?_
            refine o_len X128 hx hZ e128 Ar130 Sz130 Nn130 (hb hby d6_29) ?_
            refine o_icmpNo X128 hx (hb hby d6_30) (tlt (by decide : (1 : Int32) < (2 : Int32))).2.1 ?_
            refine o_aloadN X128 hx (hb hby d6_33) rfl rfl ?_
            exact k_
          obtain ⟨T132, X132, e132, st132⟩ := getF X128 hx hZ hown (host := "") (Or.inl (own_w hw 26 rfl)) Via.refl e128 Fl (g := (mkF m 34 #[vr a1, vr a2, vi (1 : Int32), vr a2, vi (3 : Int32), vi (2 : Int32), vi k2] [(.ref a1)])) rfl rfl (hb hby d6_34)
          have go133 : Go p e below s₁ F0 T132 (mkF m 37 #[vr a1, vr a2, vi (1 : Int32), vr a2, vi (3 : Int32), vi (2 : Int32), vi k2] [(.ref w)]) := fun t_ k_ => go131 t_ (st132 t_ k_)
          have go134 : Go p e below s₁ F0 T132 (mkF m 38 #[vr a1, vr a2, vi (1 : Int32), vr a2, vi (3 : Int32), vi (2 : Int32), vi k2] [(.int (1 : Int32)), (.ref w)]) := by
            intro t_ k_
            refine go133 t_ ?_
            refine o_iloadN X132 hx (hb hby d6_37) rfl ?_
            exact k_
          obtain ⟨cl135, Ar135, -, Sz135, Nn135, Hs135, -⟩ := id VL
          have hin135 : ¬ ((1 : Int32) < 0 ∨ cl135.slots.size ≤ ((1 : Int32)).toNatClampNeg) := inb_of Sz135 ⟨by decide, by decide⟩
          have hat135 : cl135.slots[((1 : Int32)).toNatClampNeg]? = some (.int l1) := Hs135.at hin135 rfl
          have go137 : Go p e below s₁ F0 T132 (mkF m 41 #[vr a1, vr a2, vi (1 : Int32), vr a2, vi (3 : Int32), vi (2 : Int32), vi k2] [(.int k2), (.int l1)]) := by
            intro t_ k_
            refine go134 t_ ?_
            refine o_iaload X132 hx hZ e132 Ar135 hin135 hat135 (hb hby d6_38) ?_
            refine o_iload X132 hx (hb hby d6_39) rfl ?_
            exact k_
          have hd136 : l1 < k2 := (by rw [hc67_124]; exact s1)
          have go138 : Go p e below s₁ F0 T132 (mkF m 26 #[vr a1, vr a2, vi (2 : Int32), vr a2, vi (3 : Int32), vi (2 : Int32), vi k2] [(.ref a1), (.int (2 : Int32))]) := by
            intro t_ k_
            refine go137 t_ ?_
            refine o_icmpNo X132 hx (hb hby d6_41) (tlt hd136).2.1 ?_
            refine o_iinc X132 hx (hb hby d6_44) rfl (L' := #[vr a1, vr a2, vi (2 : Int32), vr a2, vi (3 : Int32), vi (2 : Int32), vi k2]) rfl ?_
            refine o_goto X132 hx (hb hby d6_47) (pc' := 24) rfl (by decide) ?_
            refine o_iloadN X132 hx (hb hby d6_24) rfl ?_
            refine o_aloadN X132 hx (hb hby d6_25) rfl rfl ?_
            exact k_
          obtain ⟨T139, X139, e139, st139⟩ := getF X132 hx hZ hown (host := "") (Or.inl (own_w hw 26 rfl)) Via.refl e132 Fl (g := (mkF m 26 #[vr a1, vr a2, vi (2 : Int32), vr a2, vi (3 : Int32), vi (2 : Int32), vi k2] [(.ref a1), (.int (2 : Int32))])) rfl rfl (hb hby d6_26)
          have go140 : Go p e below s₁ F0 T139 (mkF m 29 #[vr a1, vr a2, vi (2 : Int32), vr a2, vi (3 : Int32), vi (2 : Int32), vi k2] [(.ref w), (.int (2 : Int32))]) := fun t_ k_ => go138 t_ (st139 t_ k_)
          obtain ⟨cl141, Ar141, -, Sz141, Nn141, -, -⟩ := id VL
          have go142 : Go p e below s₁ F0 T139 (mkF m 52 #[vr a1, vr a2, vi (2 : Int32), vr a2, vi (3 : Int32), vi (2 : Int32), vi k2] [(.ref a1), (.int (2 : Int32))]) := by
            intro t_ k_
            refine go140 t_ ?_
            refine o_len X139 hx hZ e139 Ar141 Sz141 Nn141 (hb hby d6_29) ?_
            refine o_icmpYes X139 hx (hb hby d6_30) (pc' := 50) rfl (by decide) (flt (by decide : ¬ ((2 : Int32) < (2 : Int32)))).2.1 ?_
            refine o_iloadN X139 hx (hb hby d6_50) rfl ?_
            refine o_aloadN X139 hx (hb hby d6_51) rfl rfl ?_
            exact k_
          obtain ⟨T143, X143, e143, st143⟩ := getF X139 hx hZ hown (host := "") (Or.inl (own_w hw 26 rfl)) Via.refl e139 Fl (g := (mkF m 52 #[vr a1, vr a2, vi (2 : Int32), vr a2, vi (3 : Int32), vi (2 : Int32), vi k2] [(.ref a1), (.int (2 : Int32))])) rfl rfl (hb hby d6_52)
          have go144 : Go p e below s₁ F0 T143 (mkF m 55 #[vr a1, vr a2, vi (2 : Int32), vr a2, vi (3 : Int32), vi (2 : Int32), vi k2] [(.ref w), (.int (2 : Int32))]) := fun t_ k_ => go142 t_ (st143 t_ k_)
          obtain ⟨cl145, Ar145, -, Sz145, Nn145, -, -⟩ := id VL
          have go146 : Go p e below s₁ F0 T143 (mkF m 71 #[vr a1, vr a2, vi (2 : Int32), vr a2, vi (3 : Int32), vi (2 : Int32), vi k2] [(.int (0 : Int32))]) := by
            intro t_ k_
            refine go144 t_ ?_
            refine o_len X143 hx hZ e143 Ar145 Sz145 Nn145 (hb hby d6_55) ?_
            refine o_icmpYes X143 hx (hb hby d6_56) (pc' := 70) rfl (by decide) (teq (by decide : (2 : Int32) = (2 : Int32))).1 ?_
            refine o_iconst X143 hx (hb hby d6_70) (v := 0) rfl ?_
            exact k_
          obtain ⟨fs, hr, hrun, hended, hW, hsame⟩ := X143.leave (v := some (.int (0 : Int32))) (fun h => by rw [Bd.returns] at h; cases h)
          refine ⟨_, _, pre0 _ (go146 _ ?_), hrun, hended, _, _, rfl, ?_, ⟨_, rfl⟩, hW, hsame.mono (by decide) (by decide)⟩
          · skip
            exact retN X143 hx (t := .boolean) Bd.returns (by simp) (hb hby d6_71) hr
          · show Q6_2_3 Z a1 a2 w kw kn l0 l1 k0 k1 k2 h0 n0 _ T143.heap _
            rw [e143]
            exact ⟨(congrArg (fun z => some (Value.int z)) (show (0 : Int32) = f6_2_3 l0 l1 k0 k1 k2 from by unfold f6_2_3; rw [if_neg hc41_15, if_pos hc67_80, if_neg hc41_104, if_pos hc67_124])), N0, rfl⟩
        · skip
          have go147 : Go p e below s₁ F0 T119 (mkF m 71 #[vr a1, vr a2, vi (1 : Int32), vr a2, vi (3 : Int32), vi (1 : Int32), vi k1] [(.int (0 : Int32))]) := by
            intro t_ k_
            refine go123 t_ ?_
            refine o_icmpNo X119 hx (hb hby d6_67) (feq hc67_124).1 ?_
            refine o_iconst X119 hx (hb hby d6_70) (v := 0) rfl ?_
            exact k_
          obtain ⟨fs, hr, hrun, hended, hW, hsame⟩ := X119.leave (v := some (.int (0 : Int32))) (fun h => by rw [Bd.returns] at h; cases h)
          refine ⟨_, _, pre0 _ (go147 _ ?_), hrun, hended, _, _, rfl, ?_, ⟨_, rfl⟩, hW, hsame.mono (by decide) (by decide)⟩
          · skip
            exact retN X119 hx (t := .boolean) Bd.returns (by simp) (hb hby d6_71) hr
          · show Q6_2_3 Z a1 a2 w kw kn l0 l1 k0 k1 k2 h0 n0 _ T119.heap _
            rw [e119]
            exact ⟨(congrArg (fun z => some (Value.int z)) (show (0 : Int32) = f6_2_3 l0 l1 k0 k1 k2 from by unfold f6_2_3; rw [if_neg hc41_15, if_pos hc67_80, if_neg hc41_104, if_neg hc67_124])), N0, rfl⟩
    · skip
      have go148 : Go p e below s₁ F0 T75 (mkF m 71 #[vr a1, vr a2, vi (0 : Int32), vr a2, vi (3 : Int32), vi (0 : Int32), vi k0] [(.int (0 : Int32))]) := by
        intro t_ k_
        refine go79 t_ ?_
        refine o_icmpNo X75 hx (hb hby d6_67) (feq hc67_80).1 ?_
        refine o_iconst X75 hx (hb hby d6_70) (v := 0) rfl ?_
        exact k_
      obtain ⟨fs, hr, hrun, hended, hW, hsame⟩ := X75.leave (v := some (.int (0 : Int32))) (fun h => by rw [Bd.returns] at h; cases h)
      refine ⟨_, _, pre0 _ (go148 _ ?_), hrun, hended, _, _, rfl, ?_, ⟨_, rfl⟩, hW, hsame.mono (by decide) (by decide)⟩
      · skip
        exact retN X75 hx (t := .boolean) Bd.returns (by simp) (hb hby d6_71) hr
      · show Q6_2_3 Z a1 a2 w kw kn l0 l1 k0 k1 k2 h0 n0 _ T75.heap _
        rw [e75]
        exact ⟨(congrArg (fun z => some (Value.int z)) (show (0 : Int32) = f6_2_3 l0 l1 k0 k1 k2 from by unfold f6_2_3; rw [if_neg hc41_15, if_neg hc67_80])), N0, rfl⟩

theorem pn_6_3_0 : plainName "com/example/slackline/slackline/workload/Farm$Machine" = true := by first | (simp [plainName, overriddenIn]; done) | decide +kernel
theorem ef_6_3_0 (m : MethodId) (x0 : Addr) (x1 : Addr) : entryFrame m #[(.ref x0), (.ref x1)] 7 = mkF m 0 #[vr x0, vr x1, .unset, .unset, .unset, .unset, .unset] [] := by first | (simp [entryFrame, mkF, argsToLocals, Value.category]; done) | rfl
def f6_3_0 (l0 : Int32) (l1 : Int32) (l2 : Int32) : Int32 := (1 : Int32)
def Q6_3_0 (Z : State) (a1 : Addr) (a2 : Addr) (w : Addr) (kw : ClassId) (kn : ClassId) (l0 : Int32) (l1 : Int32) (l2 : Int32) (h0 : Heap) (n0 : Nat) (v : Option Value) (h : Heap) (L : List Loc) : Prop := v = some (.int (f6_3_0 l0 l1 l2)) ∧ Fr n0 L ∧ h = h0
set_option maxRecDepth 65536 in
set_option maxHeartbeats 40000000 in
theorem rm6_3_0 (l : Launch) (Z : State) (a0 : Array Value) (hw : ∀ d ∈ tables_1, d.before a0 Z = true) (ws : List Jvm.Cond) (a1 : Addr) (a2 : Addr) (w : Addr) (kw : ClassId) (kn : ClassId) (l0 : Int32) (l1 : Int32) (l2 : Int32) (h0 : Heap) (n0 : Nat) (Z0 : n0 ≤ h0.size) (Fl : Fld Z h0 a1 c_0 "licences" "[I" (.ref w)) (VL : Arv Z h0 w kw .int (3 : Int32) [(.int l0), (.int l1), (.int l2)] (.int (0 : Int32))) (VN : Arv Z h0 a2 kn .int (0 : Int32) [] (.int (0 : Int32))) :
    MetFree l y_4 (head1 (Jvm.Cond.code y_4 prog_150_method_2_code 7 (some .boolean) :: ws) ({ frames := 0, cells := 0, slots := 0, locals := 0 } : Room)) (fun a U => a = #[(.ref a1), (.ref a2)] ∧ Z.Warmed39 U.vm ∧ U.heap = h0) (fun _ _ _ _ _ => True) (fun _ U o U' => ∃ v L, o = .returned v ∧ Q6_3_0 Z a1 a2 w kw kn l0 l1 l2 h0 n0 v U'.heap L ∧ FrameEnd U o U' L ({ frames := 0, cells := 0, slots := 0, locals := 0 } : Room).cells ({ frames := 0, cells := 0, slots := 0, locals := 0 } : Room).slots) := by
  refine MetFree.of_bodySF (plainFor_of_name pn_6_3_0) hisR ?_
  intro p e s m args below meth c s₁ Bd hml0 hP hK
  obtain ⟨rfl, hZ, hh⟩ := hP
  have hx := Bd.exec
  have hby := Bd.bytes
  have hml : c.maxLocals = 7 := hml0
  have hown : s.vm.findClass "com/example/slackline/slackline/workload/Farm$Machine" = some m.cls := findClass_of_methodNamed Bd.named
  have hnm := (name_of_methodNamed Bd.named Bd.method).1
  have X0 : Stand p l e ({ frames := 0, cells := 0, slots := 0, locals := 0 } : Room) s m #[(.ref a1), (.ref a2)] below meth c s₁ [] 0 0 := Stand.of_body Bd
  have e0 : s₁.heap = h0 := by rw [← hh, Bd.state]; rfl
  have N0 := Fr.nil n0
  obtain ⟨F0, hF0⟩ : ∃ F : JFrame, F = entryFrame m #[(.ref a1), (.ref a2)] 7 := ⟨_, rfl⟩
  have pre0 : ∀ t, Steps p.tables e below (s₁.setTop F0) t → Steps p.tables e below (s₁.setTop (entryFrame m #[(.ref a1), (.ref a2)] 7)) t := fun t k => hF0 ▸ k
  have go0 : Go p e below s₁ F0 s₁ (mkF m 0 #[vr a1, vr a2, .unset, .unset, .unset, .unset, .unset] []) := fun t k => castTop (hF0.trans (ef_6_3_0 m a1 a2)) k
  have go1 : Go p e below s₁ F0 s₁ (mkF m 5 #[vr a1, vr a2, vi (0 : Int32), vr a2, .unset, .unset, .unset] [(.ref a2)]) := by
    intro t_ k_
    refine go0 t_ ?_
    refine o_iconst X0 hx (hb hby d6_0) (v := 0) rfl ?_
    refine o_istoreN X0 hx (hb hby d6_1) (L' := #[vr a1, vr a2, vi (0 : Int32), .unset, .unset, .unset, .unset]) rfl ?_
    refine o_aloadN X0 hx (hb hby d6_2) rfl rfl ?_
    refine o_astoreN X0 hx (hb hby d6_3) rfl (L' := #[vr a1, vr a2, vi (0 : Int32), vr a2, .unset, .unset, .unset]) rfl ?_
    refine o_aloadN X0 hx (hb hby d6_4) rfl rfl ?_
    exact k_
  obtain ⟨cl2, Ar2, -, Sz2, Nn2, -, -⟩ := id VN
  have go3 : Go p e below s₁ F0 s₁ (mkF m 79 #[vr a1, vr a2, vi (0 : Int32), vr a2, vi (0 : Int32), vi (0 : Int32), .unset] [(.int (1 : Int32))]) := by
    intro t_ k_
    refine go1 t_ ?_
    refine o_len X0 hx hZ e0 Ar2 Sz2 Nn2 (hb hby d6_5) ?_
    refine o_istore X0 hx (hb hby d6_6) (L' := #[vr a1, vr a2, vi (0 : Int32), vr a2, vi (0 : Int32), .unset, .unset]) rfl ?_
    refine o_iconst X0 hx (hb hby d6_8) (v := 0) rfl ?_
    refine o_istore X0 hx (hb hby d6_9) (L' := #[vr a1, vr a2, vi (0 : Int32), vr a2, vi (0 : Int32), vi (0 : Int32), .unset]) rfl ?_
    refine o_iload X0 hx (hb hby d6_11) rfl ?_
    refine o_iload X0 hx (hb hby d6_13) rfl ?_
    refine o_icmpYes X0 hx (hb hby d6_15) (pc' := 78) rfl (by decide) (flt (by decide : ¬ ((0 : Int32) < (0 : Int32)))).2.1 ?_
    refine o_iconst X0 hx (hb hby d6_78) (v := 1) rfl ?_
    exact k_
  obtain ⟨fs, hr, hrun, hended, hW, hsame⟩ := X0.leave (v := some (.int (1 : Int32))) (fun h => by rw [Bd.returns] at h; cases h)
  refine ⟨_, _, pre0 _ (go3 _ ?_), hrun, hended, _, _, rfl, ?_, ⟨_, rfl⟩, hW, hsame.mono (by decide) (by decide)⟩
  · skip
    exact retN X0 hx (t := .boolean) Bd.returns (by simp) (hb hby d6_79) hr
  · show Q6_3_0 Z a1 a2 w kw kn l0 l1 l2 h0 n0 _ s₁.heap _
    rw [e0]
    exact ⟨(congrArg (fun z => some (Value.int z)) (show (1 : Int32) = f6_3_0 l0 l1 l2 from by unfold f6_3_0; rfl)), N0, rfl⟩

theorem pn_6_3_1 : plainName "com/example/slackline/slackline/workload/Farm$Machine" = true := by first | (simp [plainName, overriddenIn]; done) | decide +kernel
theorem ef_6_3_1 (m : MethodId) (x0 : Addr) (x1 : Addr) : entryFrame m #[(.ref x0), (.ref x1)] 7 = mkF m 0 #[vr x0, vr x1, .unset, .unset, .unset, .unset, .unset] [] := by first | (simp [entryFrame, mkF, argsToLocals, Value.category]; done) | rfl
def f6_3_1 (l0 : Int32) (l1 : Int32) (l2 : Int32) (k0 : Int32) : Int32 := (if l0 < k0 then (if l1 < k0 then (if l2 < k0 then (0 : Int32) else (if l2 = k0 then (1 : Int32) else (0 : Int32))) else (if l1 = k0 then (1 : Int32) else (0 : Int32))) else (if l0 = k0 then (1 : Int32) else (0 : Int32)))
def Q6_3_1 (Z : State) (a1 : Addr) (a2 : Addr) (w : Addr) (kw : ClassId) (kn : ClassId) (l0 : Int32) (l1 : Int32) (l2 : Int32) (k0 : Int32) (h0 : Heap) (n0 : Nat) (v : Option Value) (h : Heap) (L : List Loc) : Prop := v = some (.int (f6_3_1 l0 l1 l2 k0)) ∧ Fr n0 L ∧ h = h0
set_option maxRecDepth 65536 in
set_option maxHeartbeats 40000000 in
theorem rm6_3_1 (l : Launch) (Z : State) (a0 : Array Value) (hw : ∀ d ∈ tables_1, d.before a0 Z = true) (ws : List Jvm.Cond) (a1 : Addr) (a2 : Addr) (w : Addr) (kw : ClassId) (kn : ClassId) (l0 : Int32) (l1 : Int32) (l2 : Int32) (k0 : Int32) (h0 : Heap) (n0 : Nat) (Z0 : n0 ≤ h0.size) (Fl : Fld Z h0 a1 c_0 "licences" "[I" (.ref w)) (VL : Arv Z h0 w kw .int (3 : Int32) [(.int l0), (.int l1), (.int l2)] (.int (0 : Int32))) (VN : Arv Z h0 a2 kn .int (1 : Int32) [(.int k0)] (.int (0 : Int32))) :
    MetFree l y_4 (head1 (Jvm.Cond.code y_4 prog_150_method_2_code 7 (some .boolean) :: ws) ({ frames := 0, cells := 0, slots := 0, locals := 0 } : Room)) (fun a U => a = #[(.ref a1), (.ref a2)] ∧ Z.Warmed39 U.vm ∧ U.heap = h0) (fun _ _ _ _ _ => True) (fun _ U o U' => ∃ v L, o = .returned v ∧ Q6_3_1 Z a1 a2 w kw kn l0 l1 l2 k0 h0 n0 v U'.heap L ∧ FrameEnd U o U' L ({ frames := 0, cells := 0, slots := 0, locals := 0 } : Room).cells ({ frames := 0, cells := 0, slots := 0, locals := 0 } : Room).slots) := by
  refine MetFree.of_bodySF (plainFor_of_name pn_6_3_1) hisR ?_
  intro p e s m args below meth c s₁ Bd hml0 hP hK
  obtain ⟨rfl, hZ, hh⟩ := hP
  have hx := Bd.exec
  have hby := Bd.bytes
  have hml : c.maxLocals = 7 := hml0
  have hown : s.vm.findClass "com/example/slackline/slackline/workload/Farm$Machine" = some m.cls := findClass_of_methodNamed Bd.named
  have hnm := (name_of_methodNamed Bd.named Bd.method).1
  have X0 : Stand p l e ({ frames := 0, cells := 0, slots := 0, locals := 0 } : Room) s m #[(.ref a1), (.ref a2)] below meth c s₁ [] 0 0 := Stand.of_body Bd
  have e0 : s₁.heap = h0 := by rw [← hh, Bd.state]; rfl
  have N0 := Fr.nil n0
  obtain ⟨F0, hF0⟩ : ∃ F : JFrame, F = entryFrame m #[(.ref a1), (.ref a2)] 7 := ⟨_, rfl⟩
  have pre0 : ∀ t, Steps p.tables e below (s₁.setTop F0) t → Steps p.tables e below (s₁.setTop (entryFrame m #[(.ref a1), (.ref a2)] 7)) t := fun t k => hF0 ▸ k
  have go0 : Go p e below s₁ F0 s₁ (mkF m 0 #[vr a1, vr a2, .unset, .unset, .unset, .unset, .unset] []) := fun t k => castTop (hF0.trans (ef_6_3_1 m a1 a2)) k
  have go1 : Go p e below s₁ F0 s₁ (mkF m 5 #[vr a1, vr a2, vi (0 : Int32), vr a2, .unset, .unset, .unset] [(.ref a2)]) := by
    intro t_ k_
    refine go0 t_ ?_
    refine o_iconst X0 hx (hb hby d6_0) (v := 0) rfl ?_
    refine o_istoreN X0 hx (hb hby d6_1) (L' := #[vr a1, vr a2, vi (0 : Int32), .unset, .unset, .unset, .unset]) rfl ?_
    refine o_aloadN X0 hx (hb hby d6_2) rfl rfl ?_
    refine o_astoreN X0 hx (hb hby d6_3) rfl (L' := #[vr a1, vr a2, vi (0 : Int32), vr a2, .unset, .unset, .unset]) rfl ?_
    refine o_aloadN X0 hx (hb hby d6_4) rfl rfl ?_
    exact k_
  obtain ⟨cl2, Ar2, -, Sz2, Nn2, -, -⟩ := id VN
  have go3 : Go p e below s₁ F0 s₁ (mkF m 21 #[vr a1, vr a2, vi (0 : Int32), vr a2, vi (1 : Int32), vi (0 : Int32), .unset] [(.int (0 : Int32)), (.ref a2)]) := by
    intro t_ k_
    refine go1 t_ ?_
    refine o_len X0 hx hZ e0 Ar2 Sz2 Nn2 (hb hby d6_5) ?_
    refine o_istore X0 hx (hb hby d6_6) (L' := #[vr a1, vr a2, vi (0 : Int32), vr a2, vi (1 : Int32), .unset, .unset]) rfl ?_
    refine o_iconst X0 hx (hb hby d6_8) (v := 0) rfl ?_
    refine o_istore X0 hx (hb hby d6_9) (L' := #[vr a1, vr a2, vi (0 : Int32), vr a2, vi (1 : Int32), vi (0 : Int32), .unset]) rfl ?_
    refine o_iload X0 hx (hb hby d6_11) rfl ?_
    refine o_iload X0 hx (hb hby d6_13) rfl ?_
    refine o_icmpNo X0 hx (hb hby d6_15) (tlt (by decide : (0 : Int32) < (1 : Int32))).2.1 ?_
    refine o_aloadN X0 hx (hb hby d6_18) rfl rfl ?_
    refine o_iload X0 hx (hb hby d6_19) rfl ?_
    exact k_
  obtain ⟨cl4, Ar4, -, Sz4, Nn4, Hs4, -⟩ := id VN
  have hin4 : ¬ ((0 : Int32) < 0 ∨ cl4.slots.size ≤ ((0 : Int32)).toNatClampNeg) := inb_of Sz4 ⟨by decide, by decide⟩
  have hat4 : cl4.slots[((0 : Int32)).toNatClampNeg]? = some (.int k0) := Hs4.at hin4 rfl
  have go5 : Go p e below s₁ F0 s₁ (mkF m 26 #[vr a1, vr a2, vi (0 : Int32), vr a2, vi (1 : Int32), vi (0 : Int32), vi k0] [(.ref a1), (.int (0 : Int32))]) := by
    intro t_ k_
    refine go3 t_ ?_
    refine o_iaload X0 hx hZ e0 Ar4 hin4 hat4 (hb hby d6_21) ?_
    refine o_istore X0 hx (hb hby d6_22) (L' := #[vr a1, vr a2, vi (0 : Int32), vr a2, vi (1 : Int32), vi (0 : Int32), vi k0]) rfl ?_
    refine o_iloadN X0 hx (hb hby d6_24) rfl ?_
    refine o_aloadN X0 hx (hb hby d6_25) rfl rfl ?_
    exact k_
  obtain ⟨T6, X6, e6, st6⟩ := getF X0 hx hZ hown (host := "") (Or.inl (own_w hw 26 rfl)) Via.refl e0 Fl (g := (mkF m 26 #[vr a1, vr a2, vi (0 : Int32), vr a2, vi (1 : Int32), vi (0 : Int32), vi k0] [(.ref a1), (.int (0 : Int32))])) rfl rfl (hb hby d6_26)
  have go7 : Go p e below s₁ F0 T6 (mkF m 29 #[vr a1, vr a2, vi (0 : Int32), vr a2, vi (1 : Int32), vi (0 : Int32), vi k0] [(.ref w), (.int (0 : Int32))]) := fun t_ k_ => go5 t_ (st6 t_ k_)
  obtain ⟨cl8, Ar8, -, Sz8, Nn8, -, -⟩ := id VL
  have go9 : Go p e below s₁ F0 T6 (mkF m 34 #[vr a1, vr a2, vi (0 : Int32), vr a2, vi (1 : Int32), vi (0 : Int32), vi k0] [(.ref a1)]) := by
    intro t_ k_
    refine go7 t_ ?_
    refine o_len X6 hx hZ e6 Ar8 Sz8 Nn8 (hb hby d6_29) ?_
    refine o_icmpNo X6 hx (hb hby d6_30) (tlt (by decide : (0 : Int32) < (3 : Int32))).2.1 ?_
    refine o_aloadN X6 hx (hb hby d6_33) rfl rfl ?_
    exact k_
  obtain ⟨T10, X10, e10, st10⟩ := getF X6 hx hZ hown (host := "") (Or.inl (own_w hw 26 rfl)) Via.refl e6 Fl (g := (mkF m 34 #[vr a1, vr a2, vi (0 : Int32), vr a2, vi (1 : Int32), vi (0 : Int32), vi k0] [(.ref a1)])) rfl rfl (hb hby d6_34)
  have go11 : Go p e below s₁ F0 T10 (mkF m 37 #[vr a1, vr a2, vi (0 : Int32), vr a2, vi (1 : Int32), vi (0 : Int32), vi k0] [(.ref w)]) := fun t_ k_ => go9 t_ (st10 t_ k_)
  have go12 : Go p e below s₁ F0 T10 (mkF m 38 #[vr a1, vr a2, vi (0 : Int32), vr a2, vi (1 : Int32), vi (0 : Int32), vi k0] [(.int (0 : Int32)), (.ref w)]) := by
    intro t_ k_
    refine go11 t_ ?_
    refine o_iloadN X10 hx (hb hby d6_37) rfl ?_
    exact k_
  obtain ⟨cl13, Ar13, -, Sz13, Nn13, Hs13, -⟩ := id VL
  have hin13 : ¬ ((0 : Int32) < 0 ∨ cl13.slots.size ≤ ((0 : Int32)).toNatClampNeg) := inb_of Sz13 ⟨by decide, by decide⟩
  have hat13 : cl13.slots[((0 : Int32)).toNatClampNeg]? = some (.int l0) := Hs13.at hin13 rfl
  have go14 : Go p e below s₁ F0 T10 (mkF m 41 #[vr a1, vr a2, vi (0 : Int32), vr a2, vi (1 : Int32), vi (0 : Int32), vi k0] [(.int k0), (.int l0)]) := by
    intro t_ k_
    refine go12 t_ ?_
    refine o_iaload X10 hx hZ e10 Ar13 hin13 hat13 (hb hby d6_38) ?_
    refine o_iload X10 hx (hb hby d6_39) rfl ?_
    exact k_
  by_cases hc41_15 : l0 < k0
  · skip
    have go16 : Go p e below s₁ F0 T10 (mkF m 26 #[vr a1, vr a2, vi (1 : Int32), vr a2, vi (1 : Int32), vi (0 : Int32), vi k0] [(.ref a1), (.int (1 : Int32))]) := by
      intro t_ k_
      refine go14 t_ ?_
      refine o_icmpNo X10 hx (hb hby d6_41) (tlt hc41_15).2.1 ?_
      refine o_iinc X10 hx (hb hby d6_44) rfl (L' := #[vr a1, vr a2, vi (1 : Int32), vr a2, vi (1 : Int32), vi (0 : Int32), vi k0]) rfl ?_
      refine o_goto X10 hx (hb hby d6_47) (pc' := 24) rfl (by decide) ?_
      refine o_iloadN X10 hx (hb hby d6_24) rfl ?_
      refine o_aloadN X10 hx (hb hby d6_25) rfl rfl ?_
      exact k_
    obtain ⟨T17, X17, e17, st17⟩ := getF X10 hx hZ hown (host := "") (Or.inl (own_w hw 26 rfl)) Via.refl e10 Fl (g := (mkF m 26 #[vr a1, vr a2, vi (1 : Int32), vr a2, vi (1 : Int32), vi (0 : Int32), vi k0] [(.ref a1), (.int (1 : Int32))])) rfl rfl (hb hby d6_26)
    have go18 : Go p e below s₁ F0 T17 (mkF m 29 #[vr a1, vr a2, vi (1 : Int32), vr a2, vi (1 : Int32), vi (0 : Int32), vi k0] [(.ref w), (.int (1 : Int32))]) := fun t_ k_ => go16 t_ (st17 t_ k_)
    obtain ⟨cl19, Ar19, -, Sz19, Nn19, -, -⟩ := id VL
    have go20 : Go p e below s₁ F0 T17 (mkF m 34 #[vr a1, vr a2, vi (1 : Int32), vr a2, vi (1 : Int32), vi (0 : Int32), vi k0] [(.ref a1)]) := by
      intro t_ k_
      refine go18 t_ ?_
      refine o_len X17 hx hZ e17 Ar19 Sz19 Nn19 (hb hby d6_29) ?_
      refine o_icmpNo X17 hx (hb hby d6_30) (tlt (by decide : (1 : Int32) < (3 : Int32))).2.1 ?_
      refine o_aloadN X17 hx (hb hby d6_33) rfl rfl ?_
      exact k_
    obtain ⟨T21, X21, e21, st21⟩ := getF X17 hx hZ hown (host := "") (Or.inl (own_w hw 26 rfl)) Via.refl e17 Fl (g := (mkF m 34 #[vr a1, vr a2, vi (1 : Int32), vr a2, vi (1 : Int32), vi (0 : Int32), vi k0] [(.ref a1)])) rfl rfl (hb hby d6_34)
    have go22 : Go p e below s₁ F0 T21 (mkF m 37 #[vr a1, vr a2, vi (1 : Int32), vr a2, vi (1 : Int32), vi (0 : Int32), vi k0] [(.ref w)]) := fun t_ k_ => go20 t_ (st21 t_ k_)
    have go23 : Go p e below s₁ F0 T21 (mkF m 38 #[vr a1, vr a2, vi (1 : Int32), vr a2, vi (1 : Int32), vi (0 : Int32), vi k0] [(.int (1 : Int32)), (.ref w)]) := by
      intro t_ k_
      refine go22 t_ ?_
      refine o_iloadN X21 hx (hb hby d6_37) rfl ?_
      exact k_
    obtain ⟨cl24, Ar24, -, Sz24, Nn24, Hs24, -⟩ := id VL
    have hin24 : ¬ ((1 : Int32) < 0 ∨ cl24.slots.size ≤ ((1 : Int32)).toNatClampNeg) := inb_of Sz24 ⟨by decide, by decide⟩
    have hat24 : cl24.slots[((1 : Int32)).toNatClampNeg]? = some (.int l1) := Hs24.at hin24 rfl
    have go25 : Go p e below s₁ F0 T21 (mkF m 41 #[vr a1, vr a2, vi (1 : Int32), vr a2, vi (1 : Int32), vi (0 : Int32), vi k0] [(.int k0), (.int l1)]) := by
      intro t_ k_
      refine go23 t_ ?_
      refine o_iaload X21 hx hZ e21 Ar24 hin24 hat24 (hb hby d6_38) ?_
      refine o_iload X21 hx (hb hby d6_39) rfl ?_
      exact k_
    by_cases hc41_26 : l1 < k0
    · skip
      have go27 : Go p e below s₁ F0 T21 (mkF m 26 #[vr a1, vr a2, vi (2 : Int32), vr a2, vi (1 : Int32), vi (0 : Int32), vi k0] [(.ref a1), (.int (2 : Int32))]) := by
        intro t_ k_
        refine go25 t_ ?_
        refine o_icmpNo X21 hx (hb hby d6_41) (tlt hc41_26).2.1 ?_
        refine o_iinc X21 hx (hb hby d6_44) rfl (L' := #[vr a1, vr a2, vi (2 : Int32), vr a2, vi (1 : Int32), vi (0 : Int32), vi k0]) rfl ?_
        refine o_goto X21 hx (hb hby d6_47) (pc' := 24) rfl (by decide) ?_
        refine o_iloadN X21 hx (hb hby d6_24) rfl ?_
        refine o_aloadN X21 hx (hb hby d6_25) rfl rfl ?_
        exact k_
      obtain ⟨T28, X28, e28, st28⟩ := getF X21 hx hZ hown (host := "") (Or.inl (own_w hw 26 rfl)) Via.refl e21 Fl (g := (mkF m 26 #[vr a1, vr a2, vi (2 : Int32), vr a2, vi (1 : Int32), vi (0 : Int32), vi k0] [(.ref a1), (.int (2 : Int32))])) rfl rfl (hb hby d6_26)
      have go29 : Go p e below s₁ F0 T28 (mkF m 29 #[vr a1, vr a2, vi (2 : Int32), vr a2, vi (1 : Int32), vi (0 : Int32), vi k0] [(.ref w), (.int (2 : Int32))]) := fun t_ k_ => go27 t_ (st28 t_ k_)
      obtain ⟨cl30, Ar30, -, Sz30, Nn30, -, -⟩ := id VL
      have go31 : Go p e below s₁ F0 T28 (mkF m 34 #[vr a1, vr a2, vi (2 : Int32), vr a2, vi (1 : Int32), vi (0 : Int32), vi k0] [(.ref a1)]) := by
        intro t_ k_
        refine go29 t_ ?_
        refine o_len X28 hx hZ e28 Ar30 Sz30 Nn30 (hb hby d6_29) ?_
        refine o_icmpNo X28 hx (hb hby d6_30) (tlt (by decide : (2 : Int32) < (3 : Int32))).2.1 ?_
        refine o_aloadN X28 hx (hb hby d6_33) rfl rfl ?_
        exact k_
      obtain ⟨T32, X32, e32, st32⟩ := getF X28 hx hZ hown (host := "") (Or.inl (own_w hw 26 rfl)) Via.refl e28 Fl (g := (mkF m 34 #[vr a1, vr a2, vi (2 : Int32), vr a2, vi (1 : Int32), vi (0 : Int32), vi k0] [(.ref a1)])) rfl rfl (hb hby d6_34)
      have go33 : Go p e below s₁ F0 T32 (mkF m 37 #[vr a1, vr a2, vi (2 : Int32), vr a2, vi (1 : Int32), vi (0 : Int32), vi k0] [(.ref w)]) := fun t_ k_ => go31 t_ (st32 t_ k_)
      have go34 : Go p e below s₁ F0 T32 (mkF m 38 #[vr a1, vr a2, vi (2 : Int32), vr a2, vi (1 : Int32), vi (0 : Int32), vi k0] [(.int (2 : Int32)), (.ref w)]) := by
        intro t_ k_
        refine go33 t_ ?_
        refine o_iloadN X32 hx (hb hby d6_37) rfl ?_
        exact k_
      obtain ⟨cl35, Ar35, -, Sz35, Nn35, Hs35, -⟩ := id VL
      have hin35 : ¬ ((2 : Int32) < 0 ∨ cl35.slots.size ≤ ((2 : Int32)).toNatClampNeg) := inb_of Sz35 ⟨by decide, by decide⟩
      have hat35 : cl35.slots[((2 : Int32)).toNatClampNeg]? = some (.int l2) := Hs35.at hin35 rfl
      have go36 : Go p e below s₁ F0 T32 (mkF m 41 #[vr a1, vr a2, vi (2 : Int32), vr a2, vi (1 : Int32), vi (0 : Int32), vi k0] [(.int k0), (.int l2)]) := by
        intro t_ k_
        refine go34 t_ ?_
        refine o_iaload X32 hx hZ e32 Ar35 hin35 hat35 (hb hby d6_38) ?_
        refine o_iload X32 hx (hb hby d6_39) rfl ?_
        exact k_
      by_cases hc41_37 : l2 < k0
      · skip
        have go38 : Go p e below s₁ F0 T32 (mkF m 26 #[vr a1, vr a2, vi (3 : Int32), vr a2, vi (1 : Int32), vi (0 : Int32), vi k0] [(.ref a1), (.int (3 : Int32))]) := by
          intro t_ k_
          refine go36 t_ ?_
          refine o_icmpNo X32 hx (hb hby d6_41) (tlt hc41_37).2.1 ?_
          refine o_iinc X32 hx (hb hby d6_44) rfl (L' := #[vr a1, vr a2, vi (3 : Int32), vr a2, vi (1 : Int32), vi (0 : Int32), vi k0]) rfl ?_
          refine o_goto X32 hx (hb hby d6_47) (pc' := 24) rfl (by decide) ?_
          refine o_iloadN X32 hx (hb hby d6_24) rfl ?_
          refine o_aloadN X32 hx (hb hby d6_25) rfl rfl ?_
          exact k_
        obtain ⟨T39, X39, e39, st39⟩ := getF X32 hx hZ hown (host := "") (Or.inl (own_w hw 26 rfl)) Via.refl e32 Fl (g := (mkF m 26 #[vr a1, vr a2, vi (3 : Int32), vr a2, vi (1 : Int32), vi (0 : Int32), vi k0] [(.ref a1), (.int (3 : Int32))])) rfl rfl (hb hby d6_26)
        have go40 : Go p e below s₁ F0 T39 (mkF m 29 #[vr a1, vr a2, vi (3 : Int32), vr a2, vi (1 : Int32), vi (0 : Int32), vi k0] [(.ref w), (.int (3 : Int32))]) := fun t_ k_ => go38 t_ (st39 t_ k_)
        obtain ⟨cl41, Ar41, -, Sz41, Nn41, -, -⟩ := id VL
        have go42 : Go p e below s₁ F0 T39 (mkF m 52 #[vr a1, vr a2, vi (3 : Int32), vr a2, vi (1 : Int32), vi (0 : Int32), vi k0] [(.ref a1), (.int (3 : Int32))]) := by
          intro t_ k_
          refine go40 t_ ?_
          refine o_len X39 hx hZ e39 Ar41 Sz41 Nn41 (hb hby d6_29) ?_
          refine o_icmpYes X39 hx (hb hby d6_30) (pc' := 50) rfl (by decide) (flt (by decide : ¬ ((3 : Int32) < (3 : Int32)))).2.1 ?_
          refine o_iloadN X39 hx (hb hby d6_50) rfl ?_
          refine o_aloadN X39 hx (hb hby d6_51) rfl rfl ?_
          exact k_
        obtain ⟨T43, X43, e43, st43⟩ := getF X39 hx hZ hown (host := "") (Or.inl (own_w hw 26 rfl)) Via.refl e39 Fl (g := (mkF m 52 #[vr a1, vr a2, vi (3 : Int32), vr a2, vi (1 : Int32), vi (0 : Int32), vi k0] [(.ref a1), (.int (3 : Int32))])) rfl rfl (hb hby d6_52)
        have go44 : Go p e below s₁ F0 T43 (mkF m 55 #[vr a1, vr a2, vi (3 : Int32), vr a2, vi (1 : Int32), vi (0 : Int32), vi k0] [(.ref w), (.int (3 : Int32))]) := fun t_ k_ => go42 t_ (st43 t_ k_)
        obtain ⟨cl45, Ar45, -, Sz45, Nn45, -, -⟩ := id VL
        have go46 : Go p e below s₁ F0 T43 (mkF m 71 #[vr a1, vr a2, vi (3 : Int32), vr a2, vi (1 : Int32), vi (0 : Int32), vi k0] [(.int (0 : Int32))]) := by
          intro t_ k_
          refine go44 t_ ?_
          refine o_len X43 hx hZ e43 Ar45 Sz45 Nn45 (hb hby d6_55) ?_
          refine o_icmpYes X43 hx (hb hby d6_56) (pc' := 70) rfl (by decide) (teq (by decide : (3 : Int32) = (3 : Int32))).1 ?_
          refine o_iconst X43 hx (hb hby d6_70) (v := 0) rfl ?_
          exact k_
        obtain ⟨fs, hr, hrun, hended, hW, hsame⟩ := X43.leave (v := some (.int (0 : Int32))) (fun h => by rw [Bd.returns] at h; cases h)
        refine ⟨_, _, pre0 _ (go46 _ ?_), hrun, hended, _, _, rfl, ?_, ⟨_, rfl⟩, hW, hsame.mono (by decide) (by decide)⟩
        · skip
          exact retN X43 hx (t := .boolean) Bd.returns (by simp) (hb hby d6_71) hr
        · show Q6_3_1 Z a1 a2 w kw kn l0 l1 l2 k0 h0 n0 _ T43.heap _
          rw [e43]
          exact ⟨(congrArg (fun z => some (Value.int z)) (show (0 : Int32) = f6_3_1 l0 l1 l2 k0 from by unfold f6_3_1; rw [if_pos hc41_15, if_pos hc41_26, if_pos hc41_37])), N0, rfl⟩
      · skip
        have go47 : Go p e below s₁ F0 T32 (mkF m 52 #[vr a1, vr a2, vi (2 : Int32), vr a2, vi (1 : Int32), vi (0 : Int32), vi k0] [(.ref a1), (.int (2 : Int32))]) := by
          intro t_ k_
          refine go36 t_ ?_
          refine o_icmpYes X32 hx (hb hby d6_41) (pc' := 50) rfl (by decide) (flt hc41_37).2.1 ?_
          refine o_iloadN X32 hx (hb hby d6_50) rfl ?_
          refine o_aloadN X32 hx (hb hby d6_51) rfl rfl ?_
          exact k_
        obtain ⟨T48, X48, e48, st48⟩ := getF X32 hx hZ hown (host := "") (Or.inl (own_w hw 26 rfl)) Via.refl e32 Fl (g := (mkF m 52 #[vr a1, vr a2, vi (2 : Int32), vr a2, vi (1 : Int32), vi (0 : Int32), vi k0] [(.ref a1), (.int (2 : Int32))])) rfl rfl (hb hby d6_52)
        have go49 : Go p e below s₁ F0 T48 (mkF m 55 #[vr a1, vr a2, vi (2 : Int32), vr a2, vi (1 : Int32), vi (0 : Int32), vi k0] [(.ref w), (.int (2 : Int32))]) := fun t_ k_ => go47 t_ (st48 t_ k_)
        obtain ⟨cl50, Ar50, -, Sz50, Nn50, -, -⟩ := id VL
        have go51 : Go p e below s₁ F0 T48 (mkF m 60 #[vr a1, vr a2, vi (2 : Int32), vr a2, vi (1 : Int32), vi (0 : Int32), vi k0] [(.ref a1)]) := by
          intro t_ k_
          refine go49 t_ ?_
          refine o_len X48 hx hZ e48 Ar50 Sz50 Nn50 (hb hby d6_55) ?_
          refine o_icmpNo X48 hx (hb hby d6_56) (feq (by decide : ¬ ((2 : Int32) = (3 : Int32)))).1 ?_
          refine o_aloadN X48 hx (hb hby d6_59) rfl rfl ?_
          exact k_
        obtain ⟨T52, X52, e52, st52⟩ := getF X48 hx hZ hown (host := "") (Or.inl (own_w hw 26 rfl)) Via.refl e48 Fl (g := (mkF m 60 #[vr a1, vr a2, vi (2 : Int32), vr a2, vi (1 : Int32), vi (0 : Int32), vi k0] [(.ref a1)])) rfl rfl (hb hby d6_60)
        have go53 : Go p e below s₁ F0 T52 (mkF m 63 #[vr a1, vr a2, vi (2 : Int32), vr a2, vi (1 : Int32), vi (0 : Int32), vi k0] [(.ref w)]) := fun t_ k_ => go51 t_ (st52 t_ k_)
        have go54 : Go p e below s₁ F0 T52 (mkF m 64 #[vr a1, vr a2, vi (2 : Int32), vr a2, vi (1 : Int32), vi (0 : Int32), vi k0] [(.int (2 : Int32)), (.ref w)]) := by
          intro t_ k_
          refine go53 t_ ?_
          refine o_iloadN X52 hx (hb hby d6_63) rfl ?_
          exact k_
        obtain ⟨cl55, Ar55, -, Sz55, Nn55, Hs55, -⟩ := id VL
        have hin55 : ¬ ((2 : Int32) < 0 ∨ cl55.slots.size ≤ ((2 : Int32)).toNatClampNeg) := inb_of Sz55 ⟨by decide, by decide⟩
        have hat55 : cl55.slots[((2 : Int32)).toNatClampNeg]? = some (.int l2) := Hs55.at hin55 rfl
        have go56 : Go p e below s₁ F0 T52 (mkF m 67 #[vr a1, vr a2, vi (2 : Int32), vr a2, vi (1 : Int32), vi (0 : Int32), vi k0] [(.int k0), (.int l2)]) := by
          intro t_ k_
          refine go54 t_ ?_
          refine o_iaload X52 hx hZ e52 Ar55 hin55 hat55 (hb hby d6_64) ?_
          refine o_iload X52 hx (hb hby d6_65) rfl ?_
          exact k_
        by_cases hc67_57 : l2 = k0
        · skip
          have go58 : Go p e below s₁ F0 T52 (mkF m 79 #[vr a1, vr a2, vi (2 : Int32), vr a2, vi (1 : Int32), vi (1 : Int32), vi k0] [(.int (1 : Int32))]) := by
            intro t_ k_
            refine go56 t_ ?_
            refine o_icmpYes X52 hx (hb hby d6_67) (pc' := 72) rfl (by decide) (teq hc67_57).1 ?_
            refine o_iinc X52 hx (hb hby d6_72) rfl (L' := #[vr a1, vr a2, vi (2 : Int32), vr a2, vi (1 : Int32), vi (1 : Int32), vi k0]) rfl ?_
            refine o_goto X52 hx (hb hby d6_75) (pc' := 11) rfl (by decide) ?_
            refine o_iload X52 hx (hb hby d6_11) rfl ?_
            refine o_iload X52 hx (hb hby d6_13) rfl ?_
            refine o_icmpYes X52 hx (hb hby d6_15) (pc' := 78) rfl (by decide) (flt (by decide : ¬ ((1 : Int32) < (1 : Int32)))).2.1 ?_
            refine o_iconst X52 hx (hb hby d6_78) (v := 1) rfl ?_
            exact k_
          obtain ⟨fs, hr, hrun, hended, hW, hsame⟩ := X52.leave (v := some (.int (1 : Int32))) (fun h => by rw [Bd.returns] at h; cases h)
          refine ⟨_, _, pre0 _ (go58 _ ?_), hrun, hended, _, _, rfl, ?_, ⟨_, rfl⟩, hW, hsame.mono (by decide) (by decide)⟩
          · skip
            exact retN X52 hx (t := .boolean) Bd.returns (by simp) (hb hby d6_79) hr
          · show Q6_3_1 Z a1 a2 w kw kn l0 l1 l2 k0 h0 n0 _ T52.heap _
            rw [e52]
            exact ⟨(congrArg (fun z => some (Value.int z)) (show (1 : Int32) = f6_3_1 l0 l1 l2 k0 from by unfold f6_3_1; rw [if_pos hc41_15, if_pos hc41_26, if_neg hc41_37, if_pos hc67_57])), N0, rfl⟩
        · skip
          have go59 : Go p e below s₁ F0 T52 (mkF m 71 #[vr a1, vr a2, vi (2 : Int32), vr a2, vi (1 : Int32), vi (0 : Int32), vi k0] [(.int (0 : Int32))]) := by
            intro t_ k_
            refine go56 t_ ?_
            refine o_icmpNo X52 hx (hb hby d6_67) (feq hc67_57).1 ?_
            refine o_iconst X52 hx (hb hby d6_70) (v := 0) rfl ?_
            exact k_
          obtain ⟨fs, hr, hrun, hended, hW, hsame⟩ := X52.leave (v := some (.int (0 : Int32))) (fun h => by rw [Bd.returns] at h; cases h)
          refine ⟨_, _, pre0 _ (go59 _ ?_), hrun, hended, _, _, rfl, ?_, ⟨_, rfl⟩, hW, hsame.mono (by decide) (by decide)⟩
          · skip
            exact retN X52 hx (t := .boolean) Bd.returns (by simp) (hb hby d6_71) hr
          · show Q6_3_1 Z a1 a2 w kw kn l0 l1 l2 k0 h0 n0 _ T52.heap _
            rw [e52]
            exact ⟨(congrArg (fun z => some (Value.int z)) (show (0 : Int32) = f6_3_1 l0 l1 l2 k0 from by unfold f6_3_1; rw [if_pos hc41_15, if_pos hc41_26, if_neg hc41_37, if_neg hc67_57])), N0, rfl⟩
    · skip
      have go60 : Go p e below s₁ F0 T21 (mkF m 52 #[vr a1, vr a2, vi (1 : Int32), vr a2, vi (1 : Int32), vi (0 : Int32), vi k0] [(.ref a1), (.int (1 : Int32))]) := by
        intro t_ k_
        refine go25 t_ ?_
        refine o_icmpYes X21 hx (hb hby d6_41) (pc' := 50) rfl (by decide) (flt hc41_26).2.1 ?_
        refine o_iloadN X21 hx (hb hby d6_50) rfl ?_
        refine o_aloadN X21 hx (hb hby d6_51) rfl rfl ?_
        exact k_
      obtain ⟨T61, X61, e61, st61⟩ := getF X21 hx hZ hown (host := "") (Or.inl (own_w hw 26 rfl)) Via.refl e21 Fl (g := (mkF m 52 #[vr a1, vr a2, vi (1 : Int32), vr a2, vi (1 : Int32), vi (0 : Int32), vi k0] [(.ref a1), (.int (1 : Int32))])) rfl rfl (hb hby d6_52)
      have go62 : Go p e below s₁ F0 T61 (mkF m 55 #[vr a1, vr a2, vi (1 : Int32), vr a2, vi (1 : Int32), vi (0 : Int32), vi k0] [(.ref w), (.int (1 : Int32))]) := fun t_ k_ => go60 t_ (st61 t_ k_)
      obtain ⟨cl63, Ar63, -, Sz63, Nn63, -, -⟩ := id VL
      have go64 : Go p e below s₁ F0 T61 (mkF m 60 #[vr a1, vr a2, vi (1 : Int32), vr a2, vi (1 : Int32), vi (0 : Int32), vi k0] [(.ref a1)]) := by
        intro t_ k_
        refine go62 t_ ?_
        refine o_len X61 hx hZ e61 Ar63 Sz63 Nn63 (hb hby d6_55) ?_
        refine o_icmpNo X61 hx (hb hby d6_56) (feq (by decide : ¬ ((1 : Int32) = (3 : Int32)))).1 ?_
        refine o_aloadN X61 hx (hb hby d6_59) rfl rfl ?_
        exact k_
      obtain ⟨T65, X65, e65, st65⟩ := getF X61 hx hZ hown (host := "") (Or.inl (own_w hw 26 rfl)) Via.refl e61 Fl (g := (mkF m 60 #[vr a1, vr a2, vi (1 : Int32), vr a2, vi (1 : Int32), vi (0 : Int32), vi k0] [(.ref a1)])) rfl rfl (hb hby d6_60)
      have go66 : Go p e below s₁ F0 T65 (mkF m 63 #[vr a1, vr a2, vi (1 : Int32), vr a2, vi (1 : Int32), vi (0 : Int32), vi k0] [(.ref w)]) := fun t_ k_ => go64 t_ (st65 t_ k_)
      have go67 : Go p e below s₁ F0 T65 (mkF m 64 #[vr a1, vr a2, vi (1 : Int32), vr a2, vi (1 : Int32), vi (0 : Int32), vi k0] [(.int (1 : Int32)), (.ref w)]) := by
        intro t_ k_
        refine go66 t_ ?_
        refine o_iloadN X65 hx (hb hby d6_63) rfl ?_
        exact k_
      obtain ⟨cl68, Ar68, -, Sz68, Nn68, Hs68, -⟩ := id VL
      have hin68 : ¬ ((1 : Int32) < 0 ∨ cl68.slots.size ≤ ((1 : Int32)).toNatClampNeg) := inb_of Sz68 ⟨by decide, by decide⟩
      have hat68 : cl68.slots[((1 : Int32)).toNatClampNeg]? = some (.int l1) := Hs68.at hin68 rfl
      have go69 : Go p e below s₁ F0 T65 (mkF m 67 #[vr a1, vr a2, vi (1 : Int32), vr a2, vi (1 : Int32), vi (0 : Int32), vi k0] [(.int k0), (.int l1)]) := by
        intro t_ k_
        refine go67 t_ ?_
        refine o_iaload X65 hx hZ e65 Ar68 hin68 hat68 (hb hby d6_64) ?_
        refine o_iload X65 hx (hb hby d6_65) rfl ?_
        exact k_
      by_cases hc67_70 : l1 = k0
      · skip
        have go71 : Go p e below s₁ F0 T65 (mkF m 79 #[vr a1, vr a2, vi (1 : Int32), vr a2, vi (1 : Int32), vi (1 : Int32), vi k0] [(.int (1 : Int32))]) := by
          intro t_ k_
          refine go69 t_ ?_
          refine o_icmpYes X65 hx (hb hby d6_67) (pc' := 72) rfl (by decide) (teq hc67_70).1 ?_
          refine o_iinc X65 hx (hb hby d6_72) rfl (L' := #[vr a1, vr a2, vi (1 : Int32), vr a2, vi (1 : Int32), vi (1 : Int32), vi k0]) rfl ?_
          refine o_goto X65 hx (hb hby d6_75) (pc' := 11) rfl (by decide) ?_
          refine o_iload X65 hx (hb hby d6_11) rfl ?_
          refine o_iload X65 hx (hb hby d6_13) rfl ?_
          refine o_icmpYes X65 hx (hb hby d6_15) (pc' := 78) rfl (by decide) (flt (by decide : ¬ ((1 : Int32) < (1 : Int32)))).2.1 ?_
          refine o_iconst X65 hx (hb hby d6_78) (v := 1) rfl ?_
          exact k_
        obtain ⟨fs, hr, hrun, hended, hW, hsame⟩ := X65.leave (v := some (.int (1 : Int32))) (fun h => by rw [Bd.returns] at h; cases h)
        refine ⟨_, _, pre0 _ (go71 _ ?_), hrun, hended, _, _, rfl, ?_, ⟨_, rfl⟩, hW, hsame.mono (by decide) (by decide)⟩
        · skip
          exact retN X65 hx (t := .boolean) Bd.returns (by simp) (hb hby d6_79) hr
        · show Q6_3_1 Z a1 a2 w kw kn l0 l1 l2 k0 h0 n0 _ T65.heap _
          rw [e65]
          exact ⟨(congrArg (fun z => some (Value.int z)) (show (1 : Int32) = f6_3_1 l0 l1 l2 k0 from by unfold f6_3_1; rw [if_pos hc41_15, if_neg hc41_26, if_pos hc67_70])), N0, rfl⟩
      · skip
        have go72 : Go p e below s₁ F0 T65 (mkF m 71 #[vr a1, vr a2, vi (1 : Int32), vr a2, vi (1 : Int32), vi (0 : Int32), vi k0] [(.int (0 : Int32))]) := by
          intro t_ k_
          refine go69 t_ ?_
          refine o_icmpNo X65 hx (hb hby d6_67) (feq hc67_70).1 ?_
          refine o_iconst X65 hx (hb hby d6_70) (v := 0) rfl ?_
          exact k_
        obtain ⟨fs, hr, hrun, hended, hW, hsame⟩ := X65.leave (v := some (.int (0 : Int32))) (fun h => by rw [Bd.returns] at h; cases h)
        refine ⟨_, _, pre0 _ (go72 _ ?_), hrun, hended, _, _, rfl, ?_, ⟨_, rfl⟩, hW, hsame.mono (by decide) (by decide)⟩
        · skip
          exact retN X65 hx (t := .boolean) Bd.returns (by simp) (hb hby d6_71) hr
        · show Q6_3_1 Z a1 a2 w kw kn l0 l1 l2 k0 h0 n0 _ T65.heap _
          rw [e65]
          exact ⟨(congrArg (fun z => some (Value.int z)) (show (0 : Int32) = f6_3_1 l0 l1 l2 k0 from by unfold f6_3_1; rw [if_pos hc41_15, if_neg hc41_26, if_neg hc67_70])), N0, rfl⟩
  · skip
    have go73 : Go p e below s₁ F0 T10 (mkF m 52 #[vr a1, vr a2, vi (0 : Int32), vr a2, vi (1 : Int32), vi (0 : Int32), vi k0] [(.ref a1), (.int (0 : Int32))]) := by
      intro t_ k_
      refine go14 t_ ?_
      refine o_icmpYes X10 hx (hb hby d6_41) (pc' := 50) rfl (by decide) (flt hc41_15).2.1 ?_
      refine o_iloadN X10 hx (hb hby d6_50) rfl ?_
      refine o_aloadN X10 hx (hb hby d6_51) rfl rfl ?_
      exact k_
    obtain ⟨T74, X74, e74, st74⟩ := getF X10 hx hZ hown (host := "") (Or.inl (own_w hw 26 rfl)) Via.refl e10 Fl (g := (mkF m 52 #[vr a1, vr a2, vi (0 : Int32), vr a2, vi (1 : Int32), vi (0 : Int32), vi k0] [(.ref a1), (.int (0 : Int32))])) rfl rfl (hb hby d6_52)
    have go75 : Go p e below s₁ F0 T74 (mkF m 55 #[vr a1, vr a2, vi (0 : Int32), vr a2, vi (1 : Int32), vi (0 : Int32), vi k0] [(.ref w), (.int (0 : Int32))]) := fun t_ k_ => go73 t_ (st74 t_ k_)
    obtain ⟨cl76, Ar76, -, Sz76, Nn76, -, -⟩ := id VL
    have go77 : Go p e below s₁ F0 T74 (mkF m 60 #[vr a1, vr a2, vi (0 : Int32), vr a2, vi (1 : Int32), vi (0 : Int32), vi k0] [(.ref a1)]) := by
      intro t_ k_
      refine go75 t_ ?_
      refine o_len X74 hx hZ e74 Ar76 Sz76 Nn76 (hb hby d6_55) ?_
      refine o_icmpNo X74 hx (hb hby d6_56) (feq (by decide : ¬ ((0 : Int32) = (3 : Int32)))).1 ?_
      refine o_aloadN X74 hx (hb hby d6_59) rfl rfl ?_
      exact k_
    obtain ⟨T78, X78, e78, st78⟩ := getF X74 hx hZ hown (host := "") (Or.inl (own_w hw 26 rfl)) Via.refl e74 Fl (g := (mkF m 60 #[vr a1, vr a2, vi (0 : Int32), vr a2, vi (1 : Int32), vi (0 : Int32), vi k0] [(.ref a1)])) rfl rfl (hb hby d6_60)
    have go79 : Go p e below s₁ F0 T78 (mkF m 63 #[vr a1, vr a2, vi (0 : Int32), vr a2, vi (1 : Int32), vi (0 : Int32), vi k0] [(.ref w)]) := fun t_ k_ => go77 t_ (st78 t_ k_)
    have go80 : Go p e below s₁ F0 T78 (mkF m 64 #[vr a1, vr a2, vi (0 : Int32), vr a2, vi (1 : Int32), vi (0 : Int32), vi k0] [(.int (0 : Int32)), (.ref w)]) := by
      intro t_ k_
      refine go79 t_ ?_
      refine o_iloadN X78 hx (hb hby d6_63) rfl ?_
      exact k_
    obtain ⟨cl81, Ar81, -, Sz81, Nn81, Hs81, -⟩ := id VL
    have hin81 : ¬ ((0 : Int32) < 0 ∨ cl81.slots.size ≤ ((0 : Int32)).toNatClampNeg) := inb_of Sz81 ⟨by decide, by decide⟩
    have hat81 : cl81.slots[((0 : Int32)).toNatClampNeg]? = some (.int l0) := Hs81.at hin81 rfl
    have go82 : Go p e below s₁ F0 T78 (mkF m 67 #[vr a1, vr a2, vi (0 : Int32), vr a2, vi (1 : Int32), vi (0 : Int32), vi k0] [(.int k0), (.int l0)]) := by
      intro t_ k_
      refine go80 t_ ?_
      refine o_iaload X78 hx hZ e78 Ar81 hin81 hat81 (hb hby d6_64) ?_
      refine o_iload X78 hx (hb hby d6_65) rfl ?_
      exact k_
    by_cases hc67_83 : l0 = k0
    · skip
      have go84 : Go p e below s₁ F0 T78 (mkF m 79 #[vr a1, vr a2, vi (0 : Int32), vr a2, vi (1 : Int32), vi (1 : Int32), vi k0] [(.int (1 : Int32))]) := by
        intro t_ k_
        refine go82 t_ ?_
        refine o_icmpYes X78 hx (hb hby d6_67) (pc' := 72) rfl (by decide) (teq hc67_83).1 ?_
        refine o_iinc X78 hx (hb hby d6_72) rfl (L' := #[vr a1, vr a2, vi (0 : Int32), vr a2, vi (1 : Int32), vi (1 : Int32), vi k0]) rfl ?_
        refine o_goto X78 hx (hb hby d6_75) (pc' := 11) rfl (by decide) ?_
        refine o_iload X78 hx (hb hby d6_11) rfl ?_
        refine o_iload X78 hx (hb hby d6_13) rfl ?_
        refine o_icmpYes X78 hx (hb hby d6_15) (pc' := 78) rfl (by decide) (flt (by decide : ¬ ((1 : Int32) < (1 : Int32)))).2.1 ?_
        refine o_iconst X78 hx (hb hby d6_78) (v := 1) rfl ?_
        exact k_
      obtain ⟨fs, hr, hrun, hended, hW, hsame⟩ := X78.leave (v := some (.int (1 : Int32))) (fun h => by rw [Bd.returns] at h; cases h)
      refine ⟨_, _, pre0 _ (go84 _ ?_), hrun, hended, _, _, rfl, ?_, ⟨_, rfl⟩, hW, hsame.mono (by decide) (by decide)⟩
      · skip
        exact retN X78 hx (t := .boolean) Bd.returns (by simp) (hb hby d6_79) hr
      · show Q6_3_1 Z a1 a2 w kw kn l0 l1 l2 k0 h0 n0 _ T78.heap _
        rw [e78]
        exact ⟨(congrArg (fun z => some (Value.int z)) (show (1 : Int32) = f6_3_1 l0 l1 l2 k0 from by unfold f6_3_1; rw [if_neg hc41_15, if_pos hc67_83])), N0, rfl⟩
    · skip
      have go85 : Go p e below s₁ F0 T78 (mkF m 71 #[vr a1, vr a2, vi (0 : Int32), vr a2, vi (1 : Int32), vi (0 : Int32), vi k0] [(.int (0 : Int32))]) := by
        intro t_ k_
        refine go82 t_ ?_
        refine o_icmpNo X78 hx (hb hby d6_67) (feq hc67_83).1 ?_
        refine o_iconst X78 hx (hb hby d6_70) (v := 0) rfl ?_
        exact k_
      obtain ⟨fs, hr, hrun, hended, hW, hsame⟩ := X78.leave (v := some (.int (0 : Int32))) (fun h => by rw [Bd.returns] at h; cases h)
      refine ⟨_, _, pre0 _ (go85 _ ?_), hrun, hended, _, _, rfl, ?_, ⟨_, rfl⟩, hW, hsame.mono (by decide) (by decide)⟩
      · skip
        exact retN X78 hx (t := .boolean) Bd.returns (by simp) (hb hby d6_71) hr
      · show Q6_3_1 Z a1 a2 w kw kn l0 l1 l2 k0 h0 n0 _ T78.heap _
        rw [e78]
        exact ⟨(congrArg (fun z => some (Value.int z)) (show (0 : Int32) = f6_3_1 l0 l1 l2 k0 from by unfold f6_3_1; rw [if_neg hc41_15, if_neg hc67_83])), N0, rfl⟩

theorem pn_6_3_2 : plainName "com/example/slackline/slackline/workload/Farm$Machine" = true := by first | (simp [plainName, overriddenIn]; done) | decide +kernel
theorem ef_6_3_2 (m : MethodId) (x0 : Addr) (x1 : Addr) : entryFrame m #[(.ref x0), (.ref x1)] 7 = mkF m 0 #[vr x0, vr x1, .unset, .unset, .unset, .unset, .unset] [] := by first | (simp [entryFrame, mkF, argsToLocals, Value.category]; done) | rfl
def f6_3_2 (l0 : Int32) (l1 : Int32) (l2 : Int32) (k0 : Int32) (k1 : Int32) : Int32 := (if l0 < k0 then (if l1 < k0 then (if l2 < k0 then (0 : Int32) else (if l2 = k0 then (0 : Int32) else (0 : Int32))) else (if l1 = k0 then (if l2 < k1 then (0 : Int32) else (if l2 = k1 then (1 : Int32) else (0 : Int32))) else (0 : Int32))) else (if l0 = k0 then (if l1 < k1 then (if l2 < k1 then (0 : Int32) else (if l2 = k1 then (1 : Int32) else (0 : Int32))) else (if l1 = k1 then (1 : Int32) else (0 : Int32))) else (0 : Int32)))
def Q6_3_2 (Z : State) (a1 : Addr) (a2 : Addr) (w : Addr) (kw : ClassId) (kn : ClassId) (l0 : Int32) (l1 : Int32) (l2 : Int32) (k0 : Int32) (k1 : Int32) (h0 : Heap) (n0 : Nat) (v : Option Value) (h : Heap) (L : List Loc) : Prop := v = some (.int (f6_3_2 l0 l1 l2 k0 k1)) ∧ Fr n0 L ∧ h = h0
set_option maxRecDepth 65536 in
set_option maxHeartbeats 40000000 in
theorem rm6_3_2 (l : Launch) (Z : State) (a0 : Array Value) (hw : ∀ d ∈ tables_1, d.before a0 Z = true) (ws : List Jvm.Cond) (a1 : Addr) (a2 : Addr) (w : Addr) (kw : ClassId) (kn : ClassId) (l0 : Int32) (l1 : Int32) (l2 : Int32) (k0 : Int32) (k1 : Int32) (h0 : Heap) (n0 : Nat) (Z0 : n0 ≤ h0.size) (Fl : Fld Z h0 a1 c_0 "licences" "[I" (.ref w)) (VL : Arv Z h0 w kw .int (3 : Int32) [(.int l0), (.int l1), (.int l2)] (.int (0 : Int32))) (VN : Arv Z h0 a2 kn .int (2 : Int32) [(.int k0), (.int k1)] (.int (0 : Int32))) (s0 : k0 < k1) :
    MetFree l y_4 (head1 (Jvm.Cond.code y_4 prog_150_method_2_code 7 (some .boolean) :: ws) ({ frames := 0, cells := 0, slots := 0, locals := 0 } : Room)) (fun a U => a = #[(.ref a1), (.ref a2)] ∧ Z.Warmed39 U.vm ∧ U.heap = h0) (fun _ _ _ _ _ => True) (fun _ U o U' => ∃ v L, o = .returned v ∧ Q6_3_2 Z a1 a2 w kw kn l0 l1 l2 k0 k1 h0 n0 v U'.heap L ∧ FrameEnd U o U' L ({ frames := 0, cells := 0, slots := 0, locals := 0 } : Room).cells ({ frames := 0, cells := 0, slots := 0, locals := 0 } : Room).slots) := by
  refine MetFree.of_bodySF (plainFor_of_name pn_6_3_2) hisR ?_
  intro p e s m args below meth c s₁ Bd hml0 hP hK
  obtain ⟨rfl, hZ, hh⟩ := hP
  have hx := Bd.exec
  have hby := Bd.bytes
  have hml : c.maxLocals = 7 := hml0
  have hown : s.vm.findClass "com/example/slackline/slackline/workload/Farm$Machine" = some m.cls := findClass_of_methodNamed Bd.named
  have hnm := (name_of_methodNamed Bd.named Bd.method).1
  have X0 : Stand p l e ({ frames := 0, cells := 0, slots := 0, locals := 0 } : Room) s m #[(.ref a1), (.ref a2)] below meth c s₁ [] 0 0 := Stand.of_body Bd
  have e0 : s₁.heap = h0 := by rw [← hh, Bd.state]; rfl
  have N0 := Fr.nil n0
  obtain ⟨F0, hF0⟩ : ∃ F : JFrame, F = entryFrame m #[(.ref a1), (.ref a2)] 7 := ⟨_, rfl⟩
  have pre0 : ∀ t, Steps p.tables e below (s₁.setTop F0) t → Steps p.tables e below (s₁.setTop (entryFrame m #[(.ref a1), (.ref a2)] 7)) t := fun t k => hF0 ▸ k
  have go0 : Go p e below s₁ F0 s₁ (mkF m 0 #[vr a1, vr a2, .unset, .unset, .unset, .unset, .unset] []) := fun t k => castTop (hF0.trans (ef_6_3_2 m a1 a2)) k
  have go1 : Go p e below s₁ F0 s₁ (mkF m 5 #[vr a1, vr a2, vi (0 : Int32), vr a2, .unset, .unset, .unset] [(.ref a2)]) := by
    intro t_ k_
    refine go0 t_ ?_
    refine o_iconst X0 hx (hb hby d6_0) (v := 0) rfl ?_
    refine o_istoreN X0 hx (hb hby d6_1) (L' := #[vr a1, vr a2, vi (0 : Int32), .unset, .unset, .unset, .unset]) rfl ?_
    refine o_aloadN X0 hx (hb hby d6_2) rfl rfl ?_
    refine o_astoreN X0 hx (hb hby d6_3) rfl (L' := #[vr a1, vr a2, vi (0 : Int32), vr a2, .unset, .unset, .unset]) rfl ?_
    refine o_aloadN X0 hx (hb hby d6_4) rfl rfl ?_
    exact k_
  obtain ⟨cl2, Ar2, -, Sz2, Nn2, -, -⟩ := id VN
  have go3 : Go p e below s₁ F0 s₁ (mkF m 21 #[vr a1, vr a2, vi (0 : Int32), vr a2, vi (2 : Int32), vi (0 : Int32), .unset] [(.int (0 : Int32)), (.ref a2)]) := by
    intro t_ k_
    refine go1 t_ ?_
    refine o_len X0 hx hZ e0 Ar2 Sz2 Nn2 (hb hby d6_5) ?_
    refine o_istore X0 hx (hb hby d6_6) (L' := #[vr a1, vr a2, vi (0 : Int32), vr a2, vi (2 : Int32), .unset, .unset]) rfl ?_
    refine o_iconst X0 hx (hb hby d6_8) (v := 0) rfl ?_
    refine o_istore X0 hx (hb hby d6_9) (L' := #[vr a1, vr a2, vi (0 : Int32), vr a2, vi (2 : Int32), vi (0 : Int32), .unset]) rfl ?_
    refine o_iload X0 hx (hb hby d6_11) rfl ?_
    refine o_iload X0 hx (hb hby d6_13) rfl ?_
    refine o_icmpNo X0 hx (hb hby d6_15) (tlt (by decide : (0 : Int32) < (2 : Int32))).2.1 ?_
    refine o_aloadN X0 hx (hb hby d6_18) rfl rfl ?_
    refine o_iload X0 hx (hb hby d6_19) rfl ?_
    exact k_
  obtain ⟨cl4, Ar4, -, Sz4, Nn4, Hs4, -⟩ := id VN
  have hin4 : ¬ ((0 : Int32) < 0 ∨ cl4.slots.size ≤ ((0 : Int32)).toNatClampNeg) := inb_of Sz4 ⟨by decide, by decide⟩
  have hat4 : cl4.slots[((0 : Int32)).toNatClampNeg]? = some (.int k0) := Hs4.at hin4 rfl
  have go5 : Go p e below s₁ F0 s₁ (mkF m 26 #[vr a1, vr a2, vi (0 : Int32), vr a2, vi (2 : Int32), vi (0 : Int32), vi k0] [(.ref a1), (.int (0 : Int32))]) := by
    intro t_ k_
    refine go3 t_ ?_
    refine o_iaload X0 hx hZ e0 Ar4 hin4 hat4 (hb hby d6_21) ?_
    refine o_istore X0 hx (hb hby d6_22) (L' := #[vr a1, vr a2, vi (0 : Int32), vr a2, vi (2 : Int32), vi (0 : Int32), vi k0]) rfl ?_
    refine o_iloadN X0 hx (hb hby d6_24) rfl ?_
    refine o_aloadN X0 hx (hb hby d6_25) rfl rfl ?_
    exact k_
  obtain ⟨T6, X6, e6, st6⟩ := getF X0 hx hZ hown (host := "") (Or.inl (own_w hw 26 rfl)) Via.refl e0 Fl (g := (mkF m 26 #[vr a1, vr a2, vi (0 : Int32), vr a2, vi (2 : Int32), vi (0 : Int32), vi k0] [(.ref a1), (.int (0 : Int32))])) rfl rfl (hb hby d6_26)
  have go7 : Go p e below s₁ F0 T6 (mkF m 29 #[vr a1, vr a2, vi (0 : Int32), vr a2, vi (2 : Int32), vi (0 : Int32), vi k0] [(.ref w), (.int (0 : Int32))]) := fun t_ k_ => go5 t_ (st6 t_ k_)
  obtain ⟨cl8, Ar8, -, Sz8, Nn8, -, -⟩ := id VL
  have go9 : Go p e below s₁ F0 T6 (mkF m 34 #[vr a1, vr a2, vi (0 : Int32), vr a2, vi (2 : Int32), vi (0 : Int32), vi k0] [(.ref a1)]) := by
    intro t_ k_
    refine go7 t_ ?_
    refine o_len X6 hx hZ e6 Ar8 Sz8 Nn8 (hb hby d6_29) ?_
    refine o_icmpNo X6 hx (hb hby d6_30) (tlt (by decide : (0 : Int32) < (3 : Int32))).2.1 ?_
    refine o_aloadN X6 hx (hb hby d6_33) rfl rfl ?_
    exact k_
  obtain ⟨T10, X10, e10, st10⟩ := getF X6 hx hZ hown (host := "") (Or.inl (own_w hw 26 rfl)) Via.refl e6 Fl (g := (mkF m 34 #[vr a1, vr a2, vi (0 : Int32), vr a2, vi (2 : Int32), vi (0 : Int32), vi k0] [(.ref a1)])) rfl rfl (hb hby d6_34)
  have go11 : Go p e below s₁ F0 T10 (mkF m 37 #[vr a1, vr a2, vi (0 : Int32), vr a2, vi (2 : Int32), vi (0 : Int32), vi k0] [(.ref w)]) := fun t_ k_ => go9 t_ (st10 t_ k_)
  have go12 : Go p e below s₁ F0 T10 (mkF m 38 #[vr a1, vr a2, vi (0 : Int32), vr a2, vi (2 : Int32), vi (0 : Int32), vi k0] [(.int (0 : Int32)), (.ref w)]) := by
    intro t_ k_
    refine go11 t_ ?_
    refine o_iloadN X10 hx (hb hby d6_37) rfl ?_
    exact k_
  obtain ⟨cl13, Ar13, -, Sz13, Nn13, Hs13, -⟩ := id VL
  have hin13 : ¬ ((0 : Int32) < 0 ∨ cl13.slots.size ≤ ((0 : Int32)).toNatClampNeg) := inb_of Sz13 ⟨by decide, by decide⟩
  have hat13 : cl13.slots[((0 : Int32)).toNatClampNeg]? = some (.int l0) := Hs13.at hin13 rfl
  have go14 : Go p e below s₁ F0 T10 (mkF m 41 #[vr a1, vr a2, vi (0 : Int32), vr a2, vi (2 : Int32), vi (0 : Int32), vi k0] [(.int k0), (.int l0)]) := by
    intro t_ k_
    refine go12 t_ ?_
    refine o_iaload X10 hx hZ e10 Ar13 hin13 hat13 (hb hby d6_38) ?_
    refine o_iload X10 hx (hb hby d6_39) rfl ?_
    exact k_
  by_cases hc41_15 : l0 < k0
  · skip
    have go16 : Go p e below s₁ F0 T10 (mkF m 26 #[vr a1, vr a2, vi (1 : Int32), vr a2, vi (2 : Int32), vi (0 : Int32), vi k0] [(.ref a1), (.int (1 : Int32))]) := by
      intro t_ k_
      refine go14 t_ ?_
      refine o_icmpNo X10 hx (hb hby d6_41) (tlt hc41_15).2.1 ?_
      refine o_iinc X10 hx (hb hby d6_44) rfl (L' := #[vr a1, vr a2, vi (1 : Int32), vr a2, vi (2 : Int32), vi (0 : Int32), vi k0]) rfl ?_
      refine o_goto X10 hx (hb hby d6_47) (pc' := 24) rfl (by decide) ?_
      refine o_iloadN X10 hx (hb hby d6_24) rfl ?_
      refine o_aloadN X10 hx (hb hby d6_25) rfl rfl ?_
      exact k_
    obtain ⟨T17, X17, e17, st17⟩ := getF X10 hx hZ hown (host := "") (Or.inl (own_w hw 26 rfl)) Via.refl e10 Fl (g := (mkF m 26 #[vr a1, vr a2, vi (1 : Int32), vr a2, vi (2 : Int32), vi (0 : Int32), vi k0] [(.ref a1), (.int (1 : Int32))])) rfl rfl (hb hby d6_26)
    have go18 : Go p e below s₁ F0 T17 (mkF m 29 #[vr a1, vr a2, vi (1 : Int32), vr a2, vi (2 : Int32), vi (0 : Int32), vi k0] [(.ref w), (.int (1 : Int32))]) := fun t_ k_ => go16 t_ (st17 t_ k_)
    obtain ⟨cl19, Ar19, -, Sz19, Nn19, -, -⟩ := id VL
    have go20 : Go p e below s₁ F0 T17 (mkF m 34 #[vr a1, vr a2, vi (1 : Int32), vr a2, vi (2 : Int32), vi (0 : Int32), vi k0] [(.ref a1)]) := by
      intro t_ k_
      refine go18 t_ ?_
      refine o_len X17 hx hZ e17 Ar19 Sz19 Nn19 (hb hby d6_29) ?_
      refine o_icmpNo X17 hx (hb hby d6_30) (tlt (by decide : (1 : Int32) < (3 : Int32))).2.1 ?_
      refine o_aloadN X17 hx (hb hby d6_33) rfl rfl ?_
      exact k_
    obtain ⟨T21, X21, e21, st21⟩ := getF X17 hx hZ hown (host := "") (Or.inl (own_w hw 26 rfl)) Via.refl e17 Fl (g := (mkF m 34 #[vr a1, vr a2, vi (1 : Int32), vr a2, vi (2 : Int32), vi (0 : Int32), vi k0] [(.ref a1)])) rfl rfl (hb hby d6_34)
    have go22 : Go p e below s₁ F0 T21 (mkF m 37 #[vr a1, vr a2, vi (1 : Int32), vr a2, vi (2 : Int32), vi (0 : Int32), vi k0] [(.ref w)]) := fun t_ k_ => go20 t_ (st21 t_ k_)
    have go23 : Go p e below s₁ F0 T21 (mkF m 38 #[vr a1, vr a2, vi (1 : Int32), vr a2, vi (2 : Int32), vi (0 : Int32), vi k0] [(.int (1 : Int32)), (.ref w)]) := by
      intro t_ k_
      refine go22 t_ ?_
      refine o_iloadN X21 hx (hb hby d6_37) rfl ?_
      exact k_
    obtain ⟨cl24, Ar24, -, Sz24, Nn24, Hs24, -⟩ := id VL
    have hin24 : ¬ ((1 : Int32) < 0 ∨ cl24.slots.size ≤ ((1 : Int32)).toNatClampNeg) := inb_of Sz24 ⟨by decide, by decide⟩
    have hat24 : cl24.slots[((1 : Int32)).toNatClampNeg]? = some (.int l1) := Hs24.at hin24 rfl
    have go25 : Go p e below s₁ F0 T21 (mkF m 41 #[vr a1, vr a2, vi (1 : Int32), vr a2, vi (2 : Int32), vi (0 : Int32), vi k0] [(.int k0), (.int l1)]) := by
      intro t_ k_
      refine go23 t_ ?_
      refine o_iaload X21 hx hZ e21 Ar24 hin24 hat24 (hb hby d6_38) ?_
      refine o_iload X21 hx (hb hby d6_39) rfl ?_
      exact k_
    by_cases hc41_26 : l1 < k0
    · skip
      have go27 : Go p e below s₁ F0 T21 (mkF m 26 #[vr a1, vr a2, vi (2 : Int32), vr a2, vi (2 : Int32), vi (0 : Int32), vi k0] [(.ref a1), (.int (2 : Int32))]) := by
        intro t_ k_
        refine go25 t_ ?_
        refine o_icmpNo X21 hx (hb hby d6_41) (tlt hc41_26).2.1 ?_
        refine o_iinc X21 hx (hb hby d6_44) rfl (L' := #[vr a1, vr a2, vi (2 : Int32), vr a2, vi (2 : Int32), vi (0 : Int32), vi k0]) rfl ?_
        refine o_goto X21 hx (hb hby d6_47) (pc' := 24) rfl (by decide) ?_
        refine o_iloadN X21 hx (hb hby d6_24) rfl ?_
        refine o_aloadN X21 hx (hb hby d6_25) rfl rfl ?_
        exact k_
      obtain ⟨T28, X28, e28, st28⟩ := getF X21 hx hZ hown (host := "") (Or.inl (own_w hw 26 rfl)) Via.refl e21 Fl (g := (mkF m 26 #[vr a1, vr a2, vi (2 : Int32), vr a2, vi (2 : Int32), vi (0 : Int32), vi k0] [(.ref a1), (.int (2 : Int32))])) rfl rfl (hb hby d6_26)
      have go29 : Go p e below s₁ F0 T28 (mkF m 29 #[vr a1, vr a2, vi (2 : Int32), vr a2, vi (2 : Int32), vi (0 : Int32), vi k0] [(.ref w), (.int (2 : Int32))]) := fun t_ k_ => go27 t_ (st28 t_ k_)
      obtain ⟨cl30, Ar30, -, Sz30, Nn30, -, -⟩ := id VL
      have go31 : Go p e below s₁ F0 T28 (mkF m 34 #[vr a1, vr a2, vi (2 : Int32), vr a2, vi (2 : Int32), vi (0 : Int32), vi k0] [(.ref a1)]) := by
        intro t_ k_
        refine go29 t_ ?_
        refine o_len X28 hx hZ e28 Ar30 Sz30 Nn30 (hb hby d6_29) ?_
        refine o_icmpNo X28 hx (hb hby d6_30) (tlt (by decide : (2 : Int32) < (3 : Int32))).2.1 ?_
        refine o_aloadN X28 hx (hb hby d6_33) rfl rfl ?_
        exact k_
      obtain ⟨T32, X32, e32, st32⟩ := getF X28 hx hZ hown (host := "") (Or.inl (own_w hw 26 rfl)) Via.refl e28 Fl (g := (mkF m 34 #[vr a1, vr a2, vi (2 : Int32), vr a2, vi (2 : Int32), vi (0 : Int32), vi k0] [(.ref a1)])) rfl rfl (hb hby d6_34)
      have go33 : Go p e below s₁ F0 T32 (mkF m 37 #[vr a1, vr a2, vi (2 : Int32), vr a2, vi (2 : Int32), vi (0 : Int32), vi k0] [(.ref w)]) := fun t_ k_ => go31 t_ (st32 t_ k_)
      have go34 : Go p e below s₁ F0 T32 (mkF m 38 #[vr a1, vr a2, vi (2 : Int32), vr a2, vi (2 : Int32), vi (0 : Int32), vi k0] [(.int (2 : Int32)), (.ref w)]) := by
        intro t_ k_
        refine go33 t_ ?_
        refine o_iloadN X32 hx (hb hby d6_37) rfl ?_
        exact k_
      obtain ⟨cl35, Ar35, -, Sz35, Nn35, Hs35, -⟩ := id VL
      have hin35 : ¬ ((2 : Int32) < 0 ∨ cl35.slots.size ≤ ((2 : Int32)).toNatClampNeg) := inb_of Sz35 ⟨by decide, by decide⟩
      have hat35 : cl35.slots[((2 : Int32)).toNatClampNeg]? = some (.int l2) := Hs35.at hin35 rfl
      have go36 : Go p e below s₁ F0 T32 (mkF m 41 #[vr a1, vr a2, vi (2 : Int32), vr a2, vi (2 : Int32), vi (0 : Int32), vi k0] [(.int k0), (.int l2)]) := by
        intro t_ k_
        refine go34 t_ ?_
        refine o_iaload X32 hx hZ e32 Ar35 hin35 hat35 (hb hby d6_38) ?_
        refine o_iload X32 hx (hb hby d6_39) rfl ?_
        exact k_
      by_cases hc41_37 : l2 < k0
      · skip
        have go38 : Go p e below s₁ F0 T32 (mkF m 26 #[vr a1, vr a2, vi (3 : Int32), vr a2, vi (2 : Int32), vi (0 : Int32), vi k0] [(.ref a1), (.int (3 : Int32))]) := by
          intro t_ k_
          refine go36 t_ ?_
          refine o_icmpNo X32 hx (hb hby d6_41) (tlt hc41_37).2.1 ?_
          refine o_iinc X32 hx (hb hby d6_44) rfl (L' := #[vr a1, vr a2, vi (3 : Int32), vr a2, vi (2 : Int32), vi (0 : Int32), vi k0]) rfl ?_
          refine o_goto X32 hx (hb hby d6_47) (pc' := 24) rfl (by decide) ?_
          refine o_iloadN X32 hx (hb hby d6_24) rfl ?_
          refine o_aloadN X32 hx (hb hby d6_25) rfl rfl ?_
          exact k_
        obtain ⟨T39, X39, e39, st39⟩ := getF X32 hx hZ hown (host := "") (Or.inl (own_w hw 26 rfl)) Via.refl e32 Fl (g := (mkF m 26 #[vr a1, vr a2, vi (3 : Int32), vr a2, vi (2 : Int32), vi (0 : Int32), vi k0] [(.ref a1), (.int (3 : Int32))])) rfl rfl (hb hby d6_26)
        have go40 : Go p e below s₁ F0 T39 (mkF m 29 #[vr a1, vr a2, vi (3 : Int32), vr a2, vi (2 : Int32), vi (0 : Int32), vi k0] [(.ref w), (.int (3 : Int32))]) := fun t_ k_ => go38 t_ (st39 t_ k_)
        obtain ⟨cl41, Ar41, -, Sz41, Nn41, -, -⟩ := id VL
        have go42 : Go p e below s₁ F0 T39 (mkF m 52 #[vr a1, vr a2, vi (3 : Int32), vr a2, vi (2 : Int32), vi (0 : Int32), vi k0] [(.ref a1), (.int (3 : Int32))]) := by
          intro t_ k_
          refine go40 t_ ?_
          refine o_len X39 hx hZ e39 Ar41 Sz41 Nn41 (hb hby d6_29) ?_
          refine o_icmpYes X39 hx (hb hby d6_30) (pc' := 50) rfl (by decide) (flt (by decide : ¬ ((3 : Int32) < (3 : Int32)))).2.1 ?_
          refine o_iloadN X39 hx (hb hby d6_50) rfl ?_
          refine o_aloadN X39 hx (hb hby d6_51) rfl rfl ?_
          exact k_
        obtain ⟨T43, X43, e43, st43⟩ := getF X39 hx hZ hown (host := "") (Or.inl (own_w hw 26 rfl)) Via.refl e39 Fl (g := (mkF m 52 #[vr a1, vr a2, vi (3 : Int32), vr a2, vi (2 : Int32), vi (0 : Int32), vi k0] [(.ref a1), (.int (3 : Int32))])) rfl rfl (hb hby d6_52)
        have go44 : Go p e below s₁ F0 T43 (mkF m 55 #[vr a1, vr a2, vi (3 : Int32), vr a2, vi (2 : Int32), vi (0 : Int32), vi k0] [(.ref w), (.int (3 : Int32))]) := fun t_ k_ => go42 t_ (st43 t_ k_)
        obtain ⟨cl45, Ar45, -, Sz45, Nn45, -, -⟩ := id VL
        have go46 : Go p e below s₁ F0 T43 (mkF m 71 #[vr a1, vr a2, vi (3 : Int32), vr a2, vi (2 : Int32), vi (0 : Int32), vi k0] [(.int (0 : Int32))]) := by
          intro t_ k_
          refine go44 t_ ?_
          refine o_len X43 hx hZ e43 Ar45 Sz45 Nn45 (hb hby d6_55) ?_
          refine o_icmpYes X43 hx (hb hby d6_56) (pc' := 70) rfl (by decide) (teq (by decide : (3 : Int32) = (3 : Int32))).1 ?_
          refine o_iconst X43 hx (hb hby d6_70) (v := 0) rfl ?_
          exact k_
        obtain ⟨fs, hr, hrun, hended, hW, hsame⟩ := X43.leave (v := some (.int (0 : Int32))) (fun h => by rw [Bd.returns] at h; cases h)
        refine ⟨_, _, pre0 _ (go46 _ ?_), hrun, hended, _, _, rfl, ?_, ⟨_, rfl⟩, hW, hsame.mono (by decide) (by decide)⟩
        · skip
          exact retN X43 hx (t := .boolean) Bd.returns (by simp) (hb hby d6_71) hr
        · show Q6_3_2 Z a1 a2 w kw kn l0 l1 l2 k0 k1 h0 n0 _ T43.heap _
          rw [e43]
          exact ⟨(congrArg (fun z => some (Value.int z)) (show (0 : Int32) = f6_3_2 l0 l1 l2 k0 k1 from by unfold f6_3_2; rw [if_pos hc41_15, if_pos hc41_26, if_pos hc41_37])), N0, rfl⟩
      · skip
        have go47 : Go p e below s₁ F0 T32 (mkF m 52 #[vr a1, vr a2, vi (2 : Int32), vr a2, vi (2 : Int32), vi (0 : Int32), vi k0] [(.ref a1), (.int (2 : Int32))]) := by
          intro t_ k_
          refine go36 t_ ?_
          refine o_icmpYes X32 hx (hb hby d6_41) (pc' := 50) rfl (by decide) (flt hc41_37).2.1 ?_
          refine o_iloadN X32 hx (hb hby d6_50) rfl ?_
          refine o_aloadN X32 hx (hb hby d6_51) rfl rfl ?_
          exact k_
        obtain ⟨T48, X48, e48, st48⟩ := getF X32 hx hZ hown (host := "") (Or.inl (own_w hw 26 rfl)) Via.refl e32 Fl (g := (mkF m 52 #[vr a1, vr a2, vi (2 : Int32), vr a2, vi (2 : Int32), vi (0 : Int32), vi k0] [(.ref a1), (.int (2 : Int32))])) rfl rfl (hb hby d6_52)
        have go49 : Go p e below s₁ F0 T48 (mkF m 55 #[vr a1, vr a2, vi (2 : Int32), vr a2, vi (2 : Int32), vi (0 : Int32), vi k0] [(.ref w), (.int (2 : Int32))]) := fun t_ k_ => go47 t_ (st48 t_ k_)
        obtain ⟨cl50, Ar50, -, Sz50, Nn50, -, -⟩ := id VL
        have go51 : Go p e below s₁ F0 T48 (mkF m 60 #[vr a1, vr a2, vi (2 : Int32), vr a2, vi (2 : Int32), vi (0 : Int32), vi k0] [(.ref a1)]) := by
          intro t_ k_
          refine go49 t_ ?_
          refine o_len X48 hx hZ e48 Ar50 Sz50 Nn50 (hb hby d6_55) ?_
          refine o_icmpNo X48 hx (hb hby d6_56) (feq (by decide : ¬ ((2 : Int32) = (3 : Int32)))).1 ?_
          refine o_aloadN X48 hx (hb hby d6_59) rfl rfl ?_
          exact k_
        obtain ⟨T52, X52, e52, st52⟩ := getF X48 hx hZ hown (host := "") (Or.inl (own_w hw 26 rfl)) Via.refl e48 Fl (g := (mkF m 60 #[vr a1, vr a2, vi (2 : Int32), vr a2, vi (2 : Int32), vi (0 : Int32), vi k0] [(.ref a1)])) rfl rfl (hb hby d6_60)
        have go53 : Go p e below s₁ F0 T52 (mkF m 63 #[vr a1, vr a2, vi (2 : Int32), vr a2, vi (2 : Int32), vi (0 : Int32), vi k0] [(.ref w)]) := fun t_ k_ => go51 t_ (st52 t_ k_)
        have go54 : Go p e below s₁ F0 T52 (mkF m 64 #[vr a1, vr a2, vi (2 : Int32), vr a2, vi (2 : Int32), vi (0 : Int32), vi k0] [(.int (2 : Int32)), (.ref w)]) := by
          intro t_ k_
          refine go53 t_ ?_
          refine o_iloadN X52 hx (hb hby d6_63) rfl ?_
          exact k_
        obtain ⟨cl55, Ar55, -, Sz55, Nn55, Hs55, -⟩ := id VL
        have hin55 : ¬ ((2 : Int32) < 0 ∨ cl55.slots.size ≤ ((2 : Int32)).toNatClampNeg) := inb_of Sz55 ⟨by decide, by decide⟩
        have hat55 : cl55.slots[((2 : Int32)).toNatClampNeg]? = some (.int l2) := Hs55.at hin55 rfl
        have go56 : Go p e below s₁ F0 T52 (mkF m 67 #[vr a1, vr a2, vi (2 : Int32), vr a2, vi (2 : Int32), vi (0 : Int32), vi k0] [(.int k0), (.int l2)]) := by
          intro t_ k_
          refine go54 t_ ?_
          refine o_iaload X52 hx hZ e52 Ar55 hin55 hat55 (hb hby d6_64) ?_
          refine o_iload X52 hx (hb hby d6_65) rfl ?_
          exact k_
        by_cases hc67_57 : l2 = k0
        · skip
          have go58 : Go p e below s₁ F0 T52 (mkF m 21 #[vr a1, vr a2, vi (2 : Int32), vr a2, vi (2 : Int32), vi (1 : Int32), vi k0] [(.int (1 : Int32)), (.ref a2)]) := by
            intro t_ k_
            refine go56 t_ ?_
            refine o_icmpYes X52 hx (hb hby d6_67) (pc' := 72) rfl (by decide) (teq hc67_57).1 ?_
            refine o_iinc X52 hx (hb hby d6_72) rfl (L' := #[vr a1, vr a2, vi (2 : Int32), vr a2, vi (2 : Int32), vi (1 : Int32), vi k0]) rfl ?_
            refine o_goto X52 hx (hb hby d6_75) (pc' := 11) rfl (by decide) ?_
            refine o_iload X52 hx (hb hby d6_11) rfl ?_
            refine o_iload X52 hx (hb hby d6_13) rfl ?_
            refine o_icmpNo X52 hx (hb hby d6_15) (tlt (by decide : (1 : Int32) < (2 : Int32))).2.1 ?_
            refine o_aloadN X52 hx (hb hby d6_18) rfl rfl ?_
            refine o_iload X52 hx (hb hby d6_19) rfl ?_
            exact k_
          obtain ⟨cl59, Ar59, -, Sz59, Nn59, Hs59, -⟩ := id VN
          have hin59 : ¬ ((1 : Int32) < 0 ∨ cl59.slots.size ≤ ((1 : Int32)).toNatClampNeg) := inb_of Sz59 ⟨by decide, by decide⟩
          have hat59 : cl59.slots[((1 : Int32)).toNatClampNeg]? = some (.int k1) := Hs59.at hin59 rfl
          have go60 : Go p e below s₁ F0 T52 (mkF m 26 #[vr a1, vr a2, vi (2 : Int32), vr a2, vi (2 : Int32), vi (1 : Int32), vi k1] [(.ref a1), (.int (2 : Int32))]) := by
            intro t_ k_
            refine go58 t_ ?_
            refine o_iaload X52 hx hZ e52 Ar59 hin59 hat59 (hb hby d6_21) ?_
            refine o_istore X52 hx (hb hby d6_22) (L' := #[vr a1, vr a2, vi (2 : Int32), vr a2, vi (2 : Int32), vi (1 : Int32), vi k1]) rfl ?_
            refine o_iloadN X52 hx (hb hby d6_24) rfl ?_
            refine o_aloadN X52 hx (hb hby d6_25) rfl rfl ?_
            exact k_
          obtain ⟨T61, X61, e61, st61⟩ := getF X52 hx hZ hown (host := "") (Or.inl (own_w hw 26 rfl)) Via.refl e52 Fl (g := (mkF m 26 #[vr a1, vr a2, vi (2 : Int32), vr a2, vi (2 : Int32), vi (1 : Int32), vi k1] [(.ref a1), (.int (2 : Int32))])) rfl rfl (hb hby d6_26)
          have go62 : Go p e below s₁ F0 T61 (mkF m 29 #[vr a1, vr a2, vi (2 : Int32), vr a2, vi (2 : Int32), vi (1 : Int32), vi k1] [(.ref w), (.int (2 : Int32))]) := fun t_ k_ => go60 t_ (st61 t_ k_)
          obtain ⟨cl63, Ar63, -, Sz63, Nn63, -, -⟩ := id VL
          have go64 : Go p e below s₁ F0 T61 (mkF m 34 #[vr a1, vr a2, vi (2 : Int32), vr a2, vi (2 : Int32), vi (1 : Int32), vi k1] [(.ref a1)]) := by
            intro t_ k_
            refine go62 t_ ?_
            refine o_len X61 hx hZ e61 Ar63 Sz63 Nn63 (hb hby d6_29) ?_
            refine o_icmpNo X61 hx (hb hby d6_30) (tlt (by decide : (2 : Int32) < (3 : Int32))).2.1 ?_
            refine o_aloadN X61 hx (hb hby d6_33) rfl rfl ?_
            exact k_
          obtain ⟨T65, X65, e65, st65⟩ := getF X61 hx hZ hown (host := "") (Or.inl (own_w hw 26 rfl)) Via.refl e61 Fl (g := (mkF m 34 #[vr a1, vr a2, vi (2 : Int32), vr a2, vi (2 : Int32), vi (1 : Int32), vi k1] [(.ref a1)])) rfl rfl (hb hby d6_34)
          have go66 : Go p e below s₁ F0 T65 (mkF m 37 #[vr a1, vr a2, vi (2 : Int32), vr a2, vi (2 : Int32), vi (1 : Int32), vi k1] [(.ref w)]) := fun t_ k_ => go64 t_ (st65 t_ k_)
          have go67 : Go p e below s₁ F0 T65 (mkF m 38 #[vr a1, vr a2, vi (2 : Int32), vr a2, vi (2 : Int32), vi (1 : Int32), vi k1] [(.int (2 : Int32)), (.ref w)]) := by
            intro t_ k_
            refine go66 t_ ?_
            refine o_iloadN X65 hx (hb hby d6_37) rfl ?_
            exact k_
          obtain ⟨cl68, Ar68, -, Sz68, Nn68, Hs68, -⟩ := id VL
          have hin68 : ¬ ((2 : Int32) < 0 ∨ cl68.slots.size ≤ ((2 : Int32)).toNatClampNeg) := inb_of Sz68 ⟨by decide, by decide⟩
          have hat68 : cl68.slots[((2 : Int32)).toNatClampNeg]? = some (.int l2) := Hs68.at hin68 rfl
          have go70 : Go p e below s₁ F0 T65 (mkF m 41 #[vr a1, vr a2, vi (2 : Int32), vr a2, vi (2 : Int32), vi (1 : Int32), vi k1] [(.int k1), (.int l2)]) := by
            intro t_ k_
            refine go67 t_ ?_
            refine o_iaload X65 hx hZ e65 Ar68 hin68 hat68 (hb hby d6_38) ?_
            refine o_iload X65 hx (hb hby d6_39) rfl ?_
            exact k_
          have hd69 : l2 < k1 := (by rw [hc67_57]; exact s0)
          have go71 : Go p e below s₁ F0 T65 (mkF m 26 #[vr a1, vr a2, vi (3 : Int32), vr a2, vi (2 : Int32), vi (1 : Int32), vi k1] [(.ref a1), (.int (3 : Int32))]) := by
            intro t_ k_
            refine go70 t_ ?_
            refine o_icmpNo X65 hx (hb hby d6_41) (tlt hd69).2.1 ?_
            refine o_iinc X65 hx (hb hby d6_44) rfl (L' := #[vr a1, vr a2, vi (3 : Int32), vr a2, vi (2 : Int32), vi (1 : Int32), vi k1]) rfl ?_
            refine o_goto X65 hx (hb hby d6_47) (pc' := 24) rfl (by decide) ?_
            refine o_iloadN X65 hx (hb hby d6_24) rfl ?_
            refine o_aloadN X65 hx (hb hby d6_25) rfl rfl ?_
            exact k_
          obtain ⟨T72, X72, e72, st72⟩ := getF X65 hx hZ hown (host := "") (Or.inl (own_w hw 26 rfl)) Via.refl e65 Fl (g := (mkF m 26 #[vr a1, vr a2, vi (3 : Int32), vr a2, vi (2 : Int32), vi (1 : Int32), vi k1] [(.ref a1), (.int (3 : Int32))])) rfl rfl (hb hby d6_26)
          have go73 : Go p e below s₁ F0 T72 (mkF m 29 #[vr a1, vr a2, vi (3 : Int32), vr a2, vi (2 : Int32), vi (1 : Int32), vi k1] [(.ref w), (.int (3 : Int32))]) := fun t_ k_ => go71 t_ (st72 t_ k_)
          obtain ⟨cl74, Ar74, -, Sz74, Nn74, -, -⟩ := id VL
          have go75 : Go p e below s₁ F0 T72 (mkF m 52 #[vr a1, vr a2, vi (3 : Int32), vr a2, vi (2 : Int32), vi (1 : Int32), vi k1] [(.ref a1), (.int (3 : Int32))]) := by
            intro t_ k_
            refine go73 t_ ?_
            refine o_len X72 hx hZ e72 Ar74 Sz74 Nn74 (hb hby d6_29) ?_
            refine o_icmpYes X72 hx (hb hby d6_30) (pc' := 50) rfl (by decide) (flt (by decide : ¬ ((3 : Int32) < (3 : Int32)))).2.1 ?_
            refine o_iloadN X72 hx (hb hby d6_50) rfl ?_
            refine o_aloadN X72 hx (hb hby d6_51) rfl rfl ?_
            exact k_
          obtain ⟨T76, X76, e76, st76⟩ := getF X72 hx hZ hown (host := "") (Or.inl (own_w hw 26 rfl)) Via.refl e72 Fl (g := (mkF m 52 #[vr a1, vr a2, vi (3 : Int32), vr a2, vi (2 : Int32), vi (1 : Int32), vi k1] [(.ref a1), (.int (3 : Int32))])) rfl rfl (hb hby d6_52)
          have go77 : Go p e below s₁ F0 T76 (mkF m 55 #[vr a1, vr a2, vi (3 : Int32), vr a2, vi (2 : Int32), vi (1 : Int32), vi k1] [(.ref w), (.int (3 : Int32))]) := fun t_ k_ => go75 t_ (st76 t_ k_)
          obtain ⟨cl78, Ar78, -, Sz78, Nn78, -, -⟩ := id VL
          have go79 : Go p e below s₁ F0 T76 (mkF m 71 #[vr a1, vr a2, vi (3 : Int32), vr a2, vi (2 : Int32), vi (1 : Int32), vi k1] [(.int (0 : Int32))]) := by
            intro t_ k_
            refine go77 t_ ?_
            refine o_len X76 hx hZ e76 Ar78 Sz78 Nn78 (hb hby d6_55) ?_
            refine o_icmpYes X76 hx (hb hby d6_56) (pc' := 70) rfl (by decide) (teq (by decide : (3 : Int32) = (3 : Int32))).1 ?_
            refine o_iconst X76 hx (hb hby d6_70) (v := 0) rfl ?_
            exact k_
          obtain ⟨fs, hr, hrun, hended, hW, hsame⟩ := X76.leave (v := some (.int (0 : Int32))) (fun h => by rw [Bd.returns] at h; cases h)
          refine ⟨_, _, pre0 _ (go79 _ ?_), hrun, hended, _, _, rfl, ?_, ⟨_, rfl⟩, hW, hsame.mono (by decide) (by decide)⟩
          · skip
            exact retN X76 hx (t := .boolean) Bd.returns (by simp) (hb hby d6_71) hr
          · show Q6_3_2 Z a1 a2 w kw kn l0 l1 l2 k0 k1 h0 n0 _ T76.heap _
            rw [e76]
            exact ⟨(congrArg (fun z => some (Value.int z)) (show (0 : Int32) = f6_3_2 l0 l1 l2 k0 k1 from by unfold f6_3_2; rw [if_pos hc41_15, if_pos hc41_26, if_neg hc41_37, if_pos hc67_57])), N0, rfl⟩
        · skip
          have go80 : Go p e below s₁ F0 T52 (mkF m 71 #[vr a1, vr a2, vi (2 : Int32), vr a2, vi (2 : Int32), vi (0 : Int32), vi k0] [(.int (0 : Int32))]) := by
            intro t_ k_
            refine go56 t_ ?_
            refine o_icmpNo X52 hx (hb hby d6_67) (feq hc67_57).1 ?_
            refine o_iconst X52 hx (hb hby d6_70) (v := 0) rfl ?_
            exact k_
          obtain ⟨fs, hr, hrun, hended, hW, hsame⟩ := X52.leave (v := some (.int (0 : Int32))) (fun h => by rw [Bd.returns] at h; cases h)
          refine ⟨_, _, pre0 _ (go80 _ ?_), hrun, hended, _, _, rfl, ?_, ⟨_, rfl⟩, hW, hsame.mono (by decide) (by decide)⟩
          · skip
            exact retN X52 hx (t := .boolean) Bd.returns (by simp) (hb hby d6_71) hr
          · show Q6_3_2 Z a1 a2 w kw kn l0 l1 l2 k0 k1 h0 n0 _ T52.heap _
            rw [e52]
            exact ⟨(congrArg (fun z => some (Value.int z)) (show (0 : Int32) = f6_3_2 l0 l1 l2 k0 k1 from by unfold f6_3_2; rw [if_pos hc41_15, if_pos hc41_26, if_neg hc41_37, if_neg hc67_57])), N0, rfl⟩
    · skip
      have go81 : Go p e below s₁ F0 T21 (mkF m 52 #[vr a1, vr a2, vi (1 : Int32), vr a2, vi (2 : Int32), vi (0 : Int32), vi k0] [(.ref a1), (.int (1 : Int32))]) := by
        intro t_ k_
        refine go25 t_ ?_
        refine o_icmpYes X21 hx (hb hby d6_41) (pc' := 50) rfl (by decide) (flt hc41_26).2.1 ?_
        refine o_iloadN X21 hx (hb hby d6_50) rfl ?_
        refine o_aloadN X21 hx (hb hby d6_51) rfl rfl ?_
        exact k_
      obtain ⟨T82, X82, e82, st82⟩ := getF X21 hx hZ hown (host := "") (Or.inl (own_w hw 26 rfl)) Via.refl e21 Fl (g := (mkF m 52 #[vr a1, vr a2, vi (1 : Int32), vr a2, vi (2 : Int32), vi (0 : Int32), vi k0] [(.ref a1), (.int (1 : Int32))])) rfl rfl (hb hby d6_52)
      have go83 : Go p e below s₁ F0 T82 (mkF m 55 #[vr a1, vr a2, vi (1 : Int32), vr a2, vi (2 : Int32), vi (0 : Int32), vi k0] [(.ref w), (.int (1 : Int32))]) := fun t_ k_ => go81 t_ (st82 t_ k_)
      obtain ⟨cl84, Ar84, -, Sz84, Nn84, -, -⟩ := id VL
      have go85 : Go p e below s₁ F0 T82 (mkF m 60 #[vr a1, vr a2, vi (1 : Int32), vr a2, vi (2 : Int32), vi (0 : Int32), vi k0] [(.ref a1)]) := by
        intro t_ k_
        refine go83 t_ ?_
        refine o_len X82 hx hZ e82 Ar84 Sz84 Nn84 (hb hby d6_55) ?_
        refine o_icmpNo X82 hx (hb hby d6_56) (feq (by decide : ¬ ((1 : Int32) = (3 : Int32)))).1 ?_
        refine o_aloadN X82 hx (hb hby d6_59) rfl rfl ?_
        exact k_
      obtain ⟨T86, X86, e86, st86⟩ := getF X82 hx hZ hown (host := "") (Or.inl (own_w hw 26 rfl)) Via.refl e82 Fl (g := (mkF m 60 #[vr a1, vr a2, vi (1 : Int32), vr a2, vi (2 : Int32), vi (0 : Int32), vi k0] [(.ref a1)])) rfl rfl (hb hby d6_60)
      have go87 : Go p e below s₁ F0 T86 (mkF m 63 #[vr a1, vr a2, vi (1 : Int32), vr a2, vi (2 : Int32), vi (0 : Int32), vi k0] [(.ref w)]) := fun t_ k_ => go85 t_ (st86 t_ k_)
      have go88 : Go p e below s₁ F0 T86 (mkF m 64 #[vr a1, vr a2, vi (1 : Int32), vr a2, vi (2 : Int32), vi (0 : Int32), vi k0] [(.int (1 : Int32)), (.ref w)]) := by
        intro t_ k_
        refine go87 t_ ?_
        refine o_iloadN X86 hx (hb hby d6_63) rfl ?_
        exact k_
      obtain ⟨cl89, Ar89, -, Sz89, Nn89, Hs89, -⟩ := id VL
      have hin89 : ¬ ((1 : Int32) < 0 ∨ cl89.slots.size ≤ ((1 : Int32)).toNatClampNeg) := inb_of Sz89 ⟨by decide, by decide⟩
      have hat89 : cl89.slots[((1 : Int32)).toNatClampNeg]? = some (.int l1) := Hs89.at hin89 rfl
      have go90 : Go p e below s₁ F0 T86 (mkF m 67 #[vr a1, vr a2, vi (1 : Int32), vr a2, vi (2 : Int32), vi (0 : Int32), vi k0] [(.int k0), (.int l1)]) := by
        intro t_ k_
        refine go88 t_ ?_
        refine o_iaload X86 hx hZ e86 Ar89 hin89 hat89 (hb hby d6_64) ?_
        refine o_iload X86 hx (hb hby d6_65) rfl ?_
        exact k_
      by_cases hc67_91 : l1 = k0
      · skip
        have go92 : Go p e below s₁ F0 T86 (mkF m 21 #[vr a1, vr a2, vi (1 : Int32), vr a2, vi (2 : Int32), vi (1 : Int32), vi k0] [(.int (1 : Int32)), (.ref a2)]) := by
          intro t_ k_
          refine go90 t_ ?_
          refine o_icmpYes X86 hx (hb hby d6_67) (pc' := 72) rfl (by decide) (teq hc67_91).1 ?_
          refine o_iinc X86 hx (hb hby d6_72) rfl (L' := #[vr a1, vr a2, vi (1 : Int32), vr a2, vi (2 : Int32), vi (1 : Int32), vi k0]) rfl ?_
          refine o_goto X86 hx (hb hby d6_75) (pc' := 11) rfl (by decide) ?_
          refine o_iload X86 hx (hb hby d6_11) rfl ?_
          refine o_iload X86 hx (hb hby d6_13) rfl ?_
          refine o_icmpNo X86 hx (hb hby d6_15) (tlt (by decide : (1 : Int32) < (2 : Int32))).2.1 ?_
          refine o_aloadN X86 hx (hb hby d6_18) rfl rfl ?_
          refine o_iload X86 hx (hb hby d6_19) rfl ?_
          exact k_
        obtain ⟨cl93, Ar93, -, Sz93, Nn93, Hs93, -⟩ := id VN
        have hin93 : ¬ ((1 : Int32) < 0 ∨ cl93.slots.size ≤ ((1 : Int32)).toNatClampNeg) := inb_of Sz93 ⟨by decide, by decide⟩
        have hat93 : cl93.slots[((1 : Int32)).toNatClampNeg]? = some (.int k1) := Hs93.at hin93 rfl
        have go94 : Go p e below s₁ F0 T86 (mkF m 26 #[vr a1, vr a2, vi (1 : Int32), vr a2, vi (2 : Int32), vi (1 : Int32), vi k1] [(.ref a1), (.int (1 : Int32))]) := by
          intro t_ k_
          refine go92 t_ ?_
          refine o_iaload X86 hx hZ e86 Ar93 hin93 hat93 (hb hby d6_21) ?_
          refine o_istore X86 hx (hb hby d6_22) (L' := #[vr a1, vr a2, vi (1 : Int32), vr a2, vi (2 : Int32), vi (1 : Int32), vi k1]) rfl ?_
          refine o_iloadN X86 hx (hb hby d6_24) rfl ?_
          refine o_aloadN X86 hx (hb hby d6_25) rfl rfl ?_
          exact k_
        obtain ⟨T95, X95, e95, st95⟩ := getF X86 hx hZ hown (host := "") (Or.inl (own_w hw 26 rfl)) Via.refl e86 Fl (g := (mkF m 26 #[vr a1, vr a2, vi (1 : Int32), vr a2, vi (2 : Int32), vi (1 : Int32), vi k1] [(.ref a1), (.int (1 : Int32))])) rfl rfl (hb hby d6_26)
        have go96 : Go p e below s₁ F0 T95 (mkF m 29 #[vr a1, vr a2, vi (1 : Int32), vr a2, vi (2 : Int32), vi (1 : Int32), vi k1] [(.ref w), (.int (1 : Int32))]) := fun t_ k_ => go94 t_ (st95 t_ k_)
        obtain ⟨cl97, Ar97, -, Sz97, Nn97, -, -⟩ := id VL
        have go98 : Go p e below s₁ F0 T95 (mkF m 34 #[vr a1, vr a2, vi (1 : Int32), vr a2, vi (2 : Int32), vi (1 : Int32), vi k1] [(.ref a1)]) := by
          intro t_ k_
          refine go96 t_ ?_
          refine o_len X95 hx hZ e95 Ar97 Sz97 Nn97 (hb hby d6_29) ?_
          refine o_icmpNo X95 hx (hb hby d6_30) (tlt (by decide : (1 : Int32) < (3 : Int32))).2.1 ?_
          refine o_aloadN X95 hx (hb hby d6_33) rfl rfl ?_
          exact k_
        obtain ⟨T99, X99, e99, st99⟩ := getF X95 hx hZ hown (host := "") (Or.inl (own_w hw 26 rfl)) Via.refl e95 Fl (g := (mkF m 34 #[vr a1, vr a2, vi (1 : Int32), vr a2, vi (2 : Int32), vi (1 : Int32), vi k1] [(.ref a1)])) rfl rfl (hb hby d6_34)
        have go100 : Go p e below s₁ F0 T99 (mkF m 37 #[vr a1, vr a2, vi (1 : Int32), vr a2, vi (2 : Int32), vi (1 : Int32), vi k1] [(.ref w)]) := fun t_ k_ => go98 t_ (st99 t_ k_)
        have go101 : Go p e below s₁ F0 T99 (mkF m 38 #[vr a1, vr a2, vi (1 : Int32), vr a2, vi (2 : Int32), vi (1 : Int32), vi k1] [(.int (1 : Int32)), (.ref w)]) := by
          intro t_ k_
          refine go100 t_ ?_
          refine o_iloadN X99 hx (hb hby d6_37) rfl ?_
          exact k_
        obtain ⟨cl102, Ar102, -, Sz102, Nn102, Hs102, -⟩ := id VL
        have hin102 : ¬ ((1 : Int32) < 0 ∨ cl102.slots.size ≤ ((1 : Int32)).toNatClampNeg) := inb_of Sz102 ⟨by decide, by decide⟩
        have hat102 : cl102.slots[((1 : Int32)).toNatClampNeg]? = some (.int l1) := Hs102.at hin102 rfl
        have go104 : Go p e below s₁ F0 T99 (mkF m 41 #[vr a1, vr a2, vi (1 : Int32), vr a2, vi (2 : Int32), vi (1 : Int32), vi k1] [(.int k1), (.int l1)]) := by
          intro t_ k_
          refine go101 t_ ?_
          refine o_iaload X99 hx hZ e99 Ar102 hin102 hat102 (hb hby d6_38) ?_
          refine o_iload X99 hx (hb hby d6_39) rfl ?_
          exact k_
        have hd103 : l1 < k1 := (by rw [hc67_91]; exact s0)
        have go105 : Go p e below s₁ F0 T99 (mkF m 26 #[vr a1, vr a2, vi (2 : Int32), vr a2, vi (2 : Int32), vi (1 : Int32), vi k1] [(.ref a1), (.int (2 : Int32))]) := by
          intro t_ k_
          refine go104 t_ ?_
          refine o_icmpNo X99 hx (hb hby d6_41) (tlt hd103).2.1 ?_
          refine o_iinc X99 hx (hb hby d6_44) rfl (L' := #[vr a1, vr a2, vi (2 : Int32), vr a2, vi (2 : Int32), vi (1 : Int32), vi k1]) rfl ?_
          refine o_goto X99 hx (hb hby d6_47) (pc' := 24) rfl (by decide) ?_
          refine o_iloadN X99 hx (hb hby d6_24) rfl ?_
          refine o_aloadN X99 hx (hb hby d6_25) rfl rfl ?_
          exact k_
        obtain ⟨T106, X106, e106, st106⟩ := getF X99 hx hZ hown (host := "") (Or.inl (own_w hw 26 rfl)) Via.refl e99 Fl (g := (mkF m 26 #[vr a1, vr a2, vi (2 : Int32), vr a2, vi (2 : Int32), vi (1 : Int32), vi k1] [(.ref a1), (.int (2 : Int32))])) rfl rfl (hb hby d6_26)
        have go107 : Go p e below s₁ F0 T106 (mkF m 29 #[vr a1, vr a2, vi (2 : Int32), vr a2, vi (2 : Int32), vi (1 : Int32), vi k1] [(.ref w), (.int (2 : Int32))]) := fun t_ k_ => go105 t_ (st106 t_ k_)
        obtain ⟨cl108, Ar108, -, Sz108, Nn108, -, -⟩ := id VL
        have go109 : Go p e below s₁ F0 T106 (mkF m 34 #[vr a1, vr a2, vi (2 : Int32), vr a2, vi (2 : Int32), vi (1 : Int32), vi k1] [(.ref a1)]) := by
          intro t_ k_
          refine go107 t_ ?_
          refine o_len X106 hx hZ e106 Ar108 Sz108 Nn108 (hb hby d6_29) ?_
          refine o_icmpNo X106 hx (hb hby d6_30) (tlt (by decide : (2 : Int32) < (3 : Int32))).2.1 ?_
          refine o_aloadN X106 hx (hb hby d6_33) rfl rfl ?_
          exact k_
        obtain ⟨T110, X110, e110, st110⟩ := getF X106 hx hZ hown (host := "") (Or.inl (own_w hw 26 rfl)) Via.refl e106 Fl (g := (mkF m 34 #[vr a1, vr a2, vi (2 : Int32), vr a2, vi (2 : Int32), vi (1 : Int32), vi k1] [(.ref a1)])) rfl rfl (hb hby d6_34)
        have go111 : Go p e below s₁ F0 T110 (mkF m 37 #[vr a1, vr a2, vi (2 : Int32), vr a2, vi (2 : Int32), vi (1 : Int32), vi k1] [(.ref w)]) := fun t_ k_ => go109 t_ (st110 t_ k_)
        have go112 : Go p e below s₁ F0 T110 (mkF m 38 #[vr a1, vr a2, vi (2 : Int32), vr a2, vi (2 : Int32), vi (1 : Int32), vi k1] [(.int (2 : Int32)), (.ref w)]) := by
          intro t_ k_
          refine go111 t_ ?_
          refine o_iloadN X110 hx (hb hby d6_37) rfl ?_
          exact k_
        obtain ⟨cl113, Ar113, -, Sz113, Nn113, Hs113, -⟩ := id VL
        have hin113 : ¬ ((2 : Int32) < 0 ∨ cl113.slots.size ≤ ((2 : Int32)).toNatClampNeg) := inb_of Sz113 ⟨by decide, by decide⟩
        have hat113 : cl113.slots[((2 : Int32)).toNatClampNeg]? = some (.int l2) := Hs113.at hin113 rfl
        have go114 : Go p e below s₁ F0 T110 (mkF m 41 #[vr a1, vr a2, vi (2 : Int32), vr a2, vi (2 : Int32), vi (1 : Int32), vi k1] [(.int k1), (.int l2)]) := by
          intro t_ k_
          refine go112 t_ ?_
          refine o_iaload X110 hx hZ e110 Ar113 hin113 hat113 (hb hby d6_38) ?_
          refine o_iload X110 hx (hb hby d6_39) rfl ?_
          exact k_
        by_cases hc41_115 : l2 < k1
        · skip
          have go116 : Go p e below s₁ F0 T110 (mkF m 26 #[vr a1, vr a2, vi (3 : Int32), vr a2, vi (2 : Int32), vi (1 : Int32), vi k1] [(.ref a1), (.int (3 : Int32))]) := by
            intro t_ k_
            refine go114 t_ ?_
            refine o_icmpNo X110 hx (hb hby d6_41) (tlt hc41_115).2.1 ?_
            refine o_iinc X110 hx (hb hby d6_44) rfl (L' := #[vr a1, vr a2, vi (3 : Int32), vr a2, vi (2 : Int32), vi (1 : Int32), vi k1]) rfl ?_
            refine o_goto X110 hx (hb hby d6_47) (pc' := 24) rfl (by decide) ?_
            refine o_iloadN X110 hx (hb hby d6_24) rfl ?_
            refine o_aloadN X110 hx (hb hby d6_25) rfl rfl ?_
            exact k_
          obtain ⟨T117, X117, e117, st117⟩ := getF X110 hx hZ hown (host := "") (Or.inl (own_w hw 26 rfl)) Via.refl e110 Fl (g := (mkF m 26 #[vr a1, vr a2, vi (3 : Int32), vr a2, vi (2 : Int32), vi (1 : Int32), vi k1] [(.ref a1), (.int (3 : Int32))])) rfl rfl (hb hby d6_26)
          have go118 : Go p e below s₁ F0 T117 (mkF m 29 #[vr a1, vr a2, vi (3 : Int32), vr a2, vi (2 : Int32), vi (1 : Int32), vi k1] [(.ref w), (.int (3 : Int32))]) := fun t_ k_ => go116 t_ (st117 t_ k_)
          obtain ⟨cl119, Ar119, -, Sz119, Nn119, -, -⟩ := id VL
          have go120 : Go p e below s₁ F0 T117 (mkF m 52 #[vr a1, vr a2, vi (3 : Int32), vr a2, vi (2 : Int32), vi (1 : Int32), vi k1] [(.ref a1), (.int (3 : Int32))]) := by
            intro t_ k_
            refine go118 t_ ?_
            refine o_len X117 hx hZ e117 Ar119 Sz119 Nn119 (hb hby d6_29) ?_
            refine o_icmpYes X117 hx (hb hby d6_30) (pc' := 50) rfl (by decide) (flt (by decide : ¬ ((3 : Int32) < (3 : Int32)))).2.1 ?_
            refine o_iloadN X117 hx (hb hby d6_50) rfl ?_
            refine o_aloadN X117 hx (hb hby d6_51) rfl rfl ?_
            exact k_
          obtain ⟨T121, X121, e121, st121⟩ := getF X117 hx hZ hown (host := "") (Or.inl (own_w hw 26 rfl)) Via.refl e117 Fl (g := (mkF m 52 #[vr a1, vr a2, vi (3 : Int32), vr a2, vi (2 : Int32), vi (1 : Int32), vi k1] [(.ref a1), (.int (3 : Int32))])) rfl rfl (hb hby d6_52)
          have go122 : Go p e below s₁ F0 T121 (mkF m 55 #[vr a1, vr a2, vi (3 : Int32), vr a2, vi (2 : Int32), vi (1 : Int32), vi k1] [(.ref w), (.int (3 : Int32))]) := fun t_ k_ => go120 t_ (st121 t_ k_)
          obtain ⟨cl123, Ar123, -, Sz123, Nn123, -, -⟩ := id VL
          have go124 : Go p e below s₁ F0 T121 (mkF m 71 #[vr a1, vr a2, vi (3 : Int32), vr a2, vi (2 : Int32), vi (1 : Int32), vi k1] [(.int (0 : Int32))]) := by
            intro t_ k_
            refine go122 t_ ?_
            refine o_len X121 hx hZ e121 Ar123 Sz123 Nn123 (hb hby d6_55) ?_
            refine o_icmpYes X121 hx (hb hby d6_56) (pc' := 70) rfl (by decide) (teq (by decide : (3 : Int32) = (3 : Int32))).1 ?_
            refine o_iconst X121 hx (hb hby d6_70) (v := 0) rfl ?_
            exact k_
          obtain ⟨fs, hr, hrun, hended, hW, hsame⟩ := X121.leave (v := some (.int (0 : Int32))) (fun h => by rw [Bd.returns] at h; cases h)
          refine ⟨_, _, pre0 _ (go124 _ ?_), hrun, hended, _, _, rfl, ?_, ⟨_, rfl⟩, hW, hsame.mono (by decide) (by decide)⟩
          · skip
            exact retN X121 hx (t := .boolean) Bd.returns (by simp) (hb hby d6_71) hr
          · show Q6_3_2 Z a1 a2 w kw kn l0 l1 l2 k0 k1 h0 n0 _ T121.heap _
            rw [e121]
            exact ⟨(congrArg (fun z => some (Value.int z)) (show (0 : Int32) = f6_3_2 l0 l1 l2 k0 k1 from by unfold f6_3_2; rw [if_pos hc41_15, if_neg hc41_26, if_pos hc67_91, if_pos hc41_115])), N0, rfl⟩
        · skip
          have go125 : Go p e below s₁ F0 T110 (mkF m 52 #[vr a1, vr a2, vi (2 : Int32), vr a2, vi (2 : Int32), vi (1 : Int32), vi k1] [(.ref a1), (.int (2 : Int32))]) := by
            intro t_ k_
            refine go114 t_ ?_
            refine o_icmpYes X110 hx (hb hby d6_41) (pc' := 50) rfl (by decide) (flt hc41_115).2.1 ?_
            refine o_iloadN X110 hx (hb hby d6_50) rfl ?_
            refine o_aloadN X110 hx (hb hby d6_51) rfl rfl ?_
            exact k_
          obtain ⟨T126, X126, e126, st126⟩ := getF X110 hx hZ hown (host := "") (Or.inl (own_w hw 26 rfl)) Via.refl e110 Fl (g := (mkF m 52 #[vr a1, vr a2, vi (2 : Int32), vr a2, vi (2 : Int32), vi (1 : Int32), vi k1] [(.ref a1), (.int (2 : Int32))])) rfl rfl (hb hby d6_52)
          have go127 : Go p e below s₁ F0 T126 (mkF m 55 #[vr a1, vr a2, vi (2 : Int32), vr a2, vi (2 : Int32), vi (1 : Int32), vi k1] [(.ref w), (.int (2 : Int32))]) := fun t_ k_ => go125 t_ (st126 t_ k_)
          obtain ⟨cl128, Ar128, -, Sz128, Nn128, -, -⟩ := id VL
          have go129 : Go p e below s₁ F0 T126 (mkF m 60 #[vr a1, vr a2, vi (2 : Int32), vr a2, vi (2 : Int32), vi (1 : Int32), vi k1] [(.ref a1)]) := by
            intro t_ k_
            refine go127 t_ ?_
            refine o_len X126 hx hZ e126 Ar128 Sz128 Nn128 (hb hby d6_55) ?_
            refine o_icmpNo X126 hx (hb hby d6_56) (feq (by decide : ¬ ((2 : Int32) = (3 : Int32)))).1 ?_
            refine o_aloadN X126 hx (hb hby d6_59) rfl rfl ?_
            exact k_
          obtain ⟨T130, X130, e130, st130⟩ := getF X126 hx hZ hown (host := "") (Or.inl (own_w hw 26 rfl)) Via.refl e126 Fl (g := (mkF m 60 #[vr a1, vr a2, vi (2 : Int32), vr a2, vi (2 : Int32), vi (1 : Int32), vi k1] [(.ref a1)])) rfl rfl (hb hby d6_60)
          have go131 : Go p e below s₁ F0 T130 (mkF m 63 #[vr a1, vr a2, vi (2 : Int32), vr a2, vi (2 : Int32), vi (1 : Int32), vi k1] [(.ref w)]) := fun t_ k_ => go129 t_ (st130 t_ k_)
          have go132 : Go p e below s₁ F0 T130 (mkF m 64 #[vr a1, vr a2, vi (2 : Int32), vr a2, vi (2 : Int32), vi (1 : Int32), vi k1] [(.int (2 : Int32)), (.ref w)]) := by
            intro t_ k_
            refine go131 t_ ?_
            refine o_iloadN X130 hx (hb hby d6_63) rfl ?_
            exact k_
          obtain ⟨cl133, Ar133, -, Sz133, Nn133, Hs133, -⟩ := id VL
          have hin133 : ¬ ((2 : Int32) < 0 ∨ cl133.slots.size ≤ ((2 : Int32)).toNatClampNeg) := inb_of Sz133 ⟨by decide, by decide⟩
          have hat133 : cl133.slots[((2 : Int32)).toNatClampNeg]? = some (.int l2) := Hs133.at hin133 rfl
          have go134 : Go p e below s₁ F0 T130 (mkF m 67 #[vr a1, vr a2, vi (2 : Int32), vr a2, vi (2 : Int32), vi (1 : Int32), vi k1] [(.int k1), (.int l2)]) := by
            intro t_ k_
            refine go132 t_ ?_
            refine o_iaload X130 hx hZ e130 Ar133 hin133 hat133 (hb hby d6_64) ?_
            refine o_iload X130 hx (hb hby d6_65) rfl ?_
            exact k_
          by_cases hc67_135 : l2 = k1
          · skip
            have go136 : Go p e below s₁ F0 T130 (mkF m 79 #[vr a1, vr a2, vi (2 : Int32), vr a2, vi (2 : Int32), vi (2 : Int32), vi k1] [(.int (1 : Int32))]) := by
              intro t_ k_
              refine go134 t_ ?_
              refine o_icmpYes X130 hx (hb hby d6_67) (pc' := 72) rfl (by decide) (teq hc67_135).1 ?_
              refine o_iinc X130 hx (hb hby d6_72) rfl (L' := #[vr a1, vr a2, vi (2 : Int32), vr a2, vi (2 : Int32), vi (2 : Int32), vi k1]) rfl ?_
              refine o_goto X130 hx (hb hby d6_75) (pc' := 11) rfl (by decide) ?_
              refine o_iload X130 hx (hb hby d6_11) rfl ?_
              refine o_iload X130 hx (hb hby d6_13) rfl ?_
              refine o_icmpYes X130 hx (hb hby d6_15) (pc' := 78) rfl (by decide) (flt (by decide : ¬ ((2 : Int32) < (2 : Int32)))).2.1 ?_
              refine o_iconst X130 hx (hb hby d6_78) (v := 1) rfl ?_
              exact k_
            obtain ⟨fs, hr, hrun, hended, hW, hsame⟩ := X130.leave (v := some (.int (1 : Int32))) (fun h => by rw [Bd.returns] at h; cases h)
            refine ⟨_, _, pre0 _ (go136 _ ?_), hrun, hended, _, _, rfl, ?_, ⟨_, rfl⟩, hW, hsame.mono (by decide) (by decide)⟩
            · skip
              exact retN X130 hx (t := .boolean) Bd.returns (by simp) (hb hby d6_79) hr
            · show Q6_3_2 Z a1 a2 w kw kn l0 l1 l2 k0 k1 h0 n0 _ T130.heap _
              rw [e130]
              exact ⟨(congrArg (fun z => some (Value.int z)) (show (1 : Int32) = f6_3_2 l0 l1 l2 k0 k1 from by unfold f6_3_2; rw [if_pos hc41_15, if_neg hc41_26, if_pos hc67_91, if_neg hc41_115, if_pos hc67_135])), N0, rfl⟩
          · skip
            have go137 : Go p e below s₁ F0 T130 (mkF m 71 #[vr a1, vr a2, vi (2 : Int32), vr a2, vi (2 : Int32), vi (1 : Int32), vi k1] [(.int (0 : Int32))]) := by
              intro t_ k_
              refine go134 t_ ?_
              refine o_icmpNo X130 hx (hb hby d6_67) (feq hc67_135).1 ?_
              refine o_iconst X130 hx (hb hby d6_70) (v := 0) rfl ?_
              exact k_
            obtain ⟨fs, hr, hrun, hended, hW, hsame⟩ := X130.leave (v := some (.int (0 : Int32))) (fun h => by rw [Bd.returns] at h; cases h)
            refine ⟨_, _, pre0 _ (go137 _ ?_), hrun, hended, _, _, rfl, ?_, ⟨_, rfl⟩, hW, hsame.mono (by decide) (by decide)⟩
            · skip
              exact retN X130 hx (t := .boolean) Bd.returns (by simp) (hb hby d6_71) hr
            · show Q6_3_2 Z a1 a2 w kw kn l0 l1 l2 k0 k1 h0 n0 _ T130.heap _
              rw [e130]
              exact ⟨(congrArg (fun z => some (Value.int z)) (show (0 : Int32) = f6_3_2 l0 l1 l2 k0 k1 from by unfold f6_3_2; rw [if_pos hc41_15, if_neg hc41_26, if_pos hc67_91, if_neg hc41_115, if_neg hc67_135])), N0, rfl⟩
      · skip
        have go138 : Go p e below s₁ F0 T86 (mkF m 71 #[vr a1, vr a2, vi (1 : Int32), vr a2, vi (2 : Int32), vi (0 : Int32), vi k0] [(.int (0 : Int32))]) := by
          intro t_ k_
          refine go90 t_ ?_
          refine o_icmpNo X86 hx (hb hby d6_67) (feq hc67_91).1 ?_
          refine o_iconst X86 hx (hb hby d6_70) (v := 0) rfl ?_
          exact k_
        obtain ⟨fs, hr, hrun, hended, hW, hsame⟩ := X86.leave (v := some (.int (0 : Int32))) (fun h => by rw [Bd.returns] at h; cases h)
        refine ⟨_, _, pre0 _ (go138 _ ?_), hrun, hended, _, _, rfl, ?_, ⟨_, rfl⟩, hW, hsame.mono (by decide) (by decide)⟩
        · skip
          exact retN X86 hx (t := .boolean) Bd.returns (by simp) (hb hby d6_71) hr
        · show Q6_3_2 Z a1 a2 w kw kn l0 l1 l2 k0 k1 h0 n0 _ T86.heap _
          rw [e86]
          exact ⟨(congrArg (fun z => some (Value.int z)) (show (0 : Int32) = f6_3_2 l0 l1 l2 k0 k1 from by unfold f6_3_2; rw [if_pos hc41_15, if_neg hc41_26, if_neg hc67_91])), N0, rfl⟩
  · skip
    have go139 : Go p e below s₁ F0 T10 (mkF m 52 #[vr a1, vr a2, vi (0 : Int32), vr a2, vi (2 : Int32), vi (0 : Int32), vi k0] [(.ref a1), (.int (0 : Int32))]) := by
      intro t_ k_
      refine go14 t_ ?_
      refine o_icmpYes X10 hx (hb hby d6_41) (pc' := 50) rfl (by decide) (flt hc41_15).2.1 ?_
      refine o_iloadN X10 hx (hb hby d6_50) rfl ?_
      refine o_aloadN X10 hx (hb hby d6_51) rfl rfl ?_
      exact k_
    obtain ⟨T140, X140, e140, st140⟩ := getF X10 hx hZ hown (host := "") (Or.inl (own_w hw 26 rfl)) Via.refl e10 Fl (g := (mkF m 52 #[vr a1, vr a2, vi (0 : Int32), vr a2, vi (2 : Int32), vi (0 : Int32), vi k0] [(.ref a1), (.int (0 : Int32))])) rfl rfl (hb hby d6_52)
    have go141 : Go p e below s₁ F0 T140 (mkF m 55 #[vr a1, vr a2, vi (0 : Int32), vr a2, vi (2 : Int32), vi (0 : Int32), vi k0] [(.ref w), (.int (0 : Int32))]) := fun t_ k_ => go139 t_ (st140 t_ k_)
    obtain ⟨cl142, Ar142, -, Sz142, Nn142, -, -⟩ := id VL
    have go143 : Go p e below s₁ F0 T140 (mkF m 60 #[vr a1, vr a2, vi (0 : Int32), vr a2, vi (2 : Int32), vi (0 : Int32), vi k0] [(.ref a1)]) := by
      intro t_ k_
      refine go141 t_ ?_
      refine o_len X140 hx hZ e140 Ar142 Sz142 Nn142 (hb hby d6_55) ?_
      refine o_icmpNo X140 hx (hb hby d6_56) (feq (by decide : ¬ ((0 : Int32) = (3 : Int32)))).1 ?_
      refine o_aloadN X140 hx (hb hby d6_59) rfl rfl ?_
      exact k_
    obtain ⟨T144, X144, e144, st144⟩ := getF X140 hx hZ hown (host := "") (Or.inl (own_w hw 26 rfl)) Via.refl e140 Fl (g := (mkF m 60 #[vr a1, vr a2, vi (0 : Int32), vr a2, vi (2 : Int32), vi (0 : Int32), vi k0] [(.ref a1)])) rfl rfl (hb hby d6_60)
    have go145 : Go p e below s₁ F0 T144 (mkF m 63 #[vr a1, vr a2, vi (0 : Int32), vr a2, vi (2 : Int32), vi (0 : Int32), vi k0] [(.ref w)]) := fun t_ k_ => go143 t_ (st144 t_ k_)
    have go146 : Go p e below s₁ F0 T144 (mkF m 64 #[vr a1, vr a2, vi (0 : Int32), vr a2, vi (2 : Int32), vi (0 : Int32), vi k0] [(.int (0 : Int32)), (.ref w)]) := by
      intro t_ k_
      refine go145 t_ ?_
      refine o_iloadN X144 hx (hb hby d6_63) rfl ?_
      exact k_
    obtain ⟨cl147, Ar147, -, Sz147, Nn147, Hs147, -⟩ := id VL
    have hin147 : ¬ ((0 : Int32) < 0 ∨ cl147.slots.size ≤ ((0 : Int32)).toNatClampNeg) := inb_of Sz147 ⟨by decide, by decide⟩
    have hat147 : cl147.slots[((0 : Int32)).toNatClampNeg]? = some (.int l0) := Hs147.at hin147 rfl
    have go148 : Go p e below s₁ F0 T144 (mkF m 67 #[vr a1, vr a2, vi (0 : Int32), vr a2, vi (2 : Int32), vi (0 : Int32), vi k0] [(.int k0), (.int l0)]) := by
      intro t_ k_
      refine go146 t_ ?_
      refine o_iaload X144 hx hZ e144 Ar147 hin147 hat147 (hb hby d6_64) ?_
      refine o_iload X144 hx (hb hby d6_65) rfl ?_
      exact k_
    by_cases hc67_149 : l0 = k0
    · skip
      have go150 : Go p e below s₁ F0 T144 (mkF m 21 #[vr a1, vr a2, vi (0 : Int32), vr a2, vi (2 : Int32), vi (1 : Int32), vi k0] [(.int (1 : Int32)), (.ref a2)]) := by
        intro t_ k_
        refine go148 t_ ?_
        refine o_icmpYes X144 hx (hb hby d6_67) (pc' := 72) rfl (by decide) (teq hc67_149).1 ?_
        refine o_iinc X144 hx (hb hby d6_72) rfl (L' := #[vr a1, vr a2, vi (0 : Int32), vr a2, vi (2 : Int32), vi (1 : Int32), vi k0]) rfl ?_
        refine o_goto X144 hx (hb hby d6_75) (pc' := 11) rfl (by decide) ?_
        refine o_iload X144 hx (hb hby d6_11) rfl ?_
        refine o_iload X144 hx (hb hby d6_13) rfl ?_
        refine o_icmpNo X144 hx (hb hby d6_15) (tlt (by decide : (1 : Int32) < (2 : Int32))).2.1 ?_
        refine o_aloadN X144 hx (hb hby d6_18) rfl rfl ?_
        refine o_iload X144 hx (hb hby d6_19) rfl ?_
        exact k_
      obtain ⟨cl151, Ar151, -, Sz151, Nn151, Hs151, -⟩ := id VN
      have hin151 : ¬ ((1 : Int32) < 0 ∨ cl151.slots.size ≤ ((1 : Int32)).toNatClampNeg) := inb_of Sz151 ⟨by decide, by decide⟩
      have hat151 : cl151.slots[((1 : Int32)).toNatClampNeg]? = some (.int k1) := Hs151.at hin151 rfl
      have go152 : Go p e below s₁ F0 T144 (mkF m 26 #[vr a1, vr a2, vi (0 : Int32), vr a2, vi (2 : Int32), vi (1 : Int32), vi k1] [(.ref a1), (.int (0 : Int32))]) := by
        intro t_ k_
        refine go150 t_ ?_
        refine o_iaload X144 hx hZ e144 Ar151 hin151 hat151 (hb hby d6_21) ?_
        refine o_istore X144 hx (hb hby d6_22) (L' := #[vr a1, vr a2, vi (0 : Int32), vr a2, vi (2 : Int32), vi (1 : Int32), vi k1]) rfl ?_
        refine o_iloadN X144 hx (hb hby d6_24) rfl ?_
        refine o_aloadN X144 hx (hb hby d6_25) rfl rfl ?_
        exact k_
      obtain ⟨T153, X153, e153, st153⟩ := getF X144 hx hZ hown (host := "") (Or.inl (own_w hw 26 rfl)) Via.refl e144 Fl (g := (mkF m 26 #[vr a1, vr a2, vi (0 : Int32), vr a2, vi (2 : Int32), vi (1 : Int32), vi k1] [(.ref a1), (.int (0 : Int32))])) rfl rfl (hb hby d6_26)
      have go154 : Go p e below s₁ F0 T153 (mkF m 29 #[vr a1, vr a2, vi (0 : Int32), vr a2, vi (2 : Int32), vi (1 : Int32), vi k1] [(.ref w), (.int (0 : Int32))]) := fun t_ k_ => go152 t_ (st153 t_ k_)
      obtain ⟨cl155, Ar155, -, Sz155, Nn155, -, -⟩ := id VL
      have go156 : Go p e below s₁ F0 T153 (mkF m 34 #[vr a1, vr a2, vi (0 : Int32), vr a2, vi (2 : Int32), vi (1 : Int32), vi k1] [(.ref a1)]) := by
        intro t_ k_
        refine go154 t_ ?_
        refine o_len X153 hx hZ e153 Ar155 Sz155 Nn155 (hb hby d6_29) ?_
        refine o_icmpNo X153 hx (hb hby d6_30) (tlt (by decide : (0 : Int32) < (3 : Int32))).2.1 ?_
        refine o_aloadN X153 hx (hb hby d6_33) rfl rfl ?_
        exact k_
      obtain ⟨T157, X157, e157, st157⟩ := getF X153 hx hZ hown (host := "") (Or.inl (own_w hw 26 rfl)) Via.refl e153 Fl (g := (mkF m 34 #[vr a1, vr a2, vi (0 : Int32), vr a2, vi (2 : Int32), vi (1 : Int32), vi k1] [(.ref a1)])) rfl rfl (hb hby d6_34)
      have go158 : Go p e below s₁ F0 T157 (mkF m 37 #[vr a1, vr a2, vi (0 : Int32), vr a2, vi (2 : Int32), vi (1 : Int32), vi k1] [(.ref w)]) := fun t_ k_ => go156 t_ (st157 t_ k_)
      have go159 : Go p e below s₁ F0 T157 (mkF m 38 #[vr a1, vr a2, vi (0 : Int32), vr a2, vi (2 : Int32), vi (1 : Int32), vi k1] [(.int (0 : Int32)), (.ref w)]) := by
        intro t_ k_
        refine go158 t_ ?_
        refine o_iloadN X157 hx (hb hby d6_37) rfl ?_
        exact k_
      obtain ⟨cl160, Ar160, -, Sz160, Nn160, Hs160, -⟩ := id VL
      have hin160 : ¬ ((0 : Int32) < 0 ∨ cl160.slots.size ≤ ((0 : Int32)).toNatClampNeg) := inb_of Sz160 ⟨by decide, by decide⟩
      have hat160 : cl160.slots[((0 : Int32)).toNatClampNeg]? = some (.int l0) := Hs160.at hin160 rfl
      have go162 : Go p e below s₁ F0 T157 (mkF m 41 #[vr a1, vr a2, vi (0 : Int32), vr a2, vi (2 : Int32), vi (1 : Int32), vi k1] [(.int k1), (.int l0)]) := by
        intro t_ k_
        refine go159 t_ ?_
        refine o_iaload X157 hx hZ e157 Ar160 hin160 hat160 (hb hby d6_38) ?_
        refine o_iload X157 hx (hb hby d6_39) rfl ?_
        exact k_
      have hd161 : l0 < k1 := (by rw [hc67_149]; exact s0)
      have go163 : Go p e below s₁ F0 T157 (mkF m 26 #[vr a1, vr a2, vi (1 : Int32), vr a2, vi (2 : Int32), vi (1 : Int32), vi k1] [(.ref a1), (.int (1 : Int32))]) := by
        intro t_ k_
        refine go162 t_ ?_
        refine o_icmpNo X157 hx (hb hby d6_41) (tlt hd161).2.1 ?_
        refine o_iinc X157 hx (hb hby d6_44) rfl (L' := #[vr a1, vr a2, vi (1 : Int32), vr a2, vi (2 : Int32), vi (1 : Int32), vi k1]) rfl ?_
        refine o_goto X157 hx (hb hby d6_47) (pc' := 24) rfl (by decide) ?_
        refine o_iloadN X157 hx (hb hby d6_24) rfl ?_
        refine o_aloadN X157 hx (hb hby d6_25) rfl rfl ?_
        exact k_
      obtain ⟨T164, X164, e164, st164⟩ := getF X157 hx hZ hown (host := "") (Or.inl (own_w hw 26 rfl)) Via.refl e157 Fl (g := (mkF m 26 #[vr a1, vr a2, vi (1 : Int32), vr a2, vi (2 : Int32), vi (1 : Int32), vi k1] [(.ref a1), (.int (1 : Int32))])) rfl rfl (hb hby d6_26)
      have go165 : Go p e below s₁ F0 T164 (mkF m 29 #[vr a1, vr a2, vi (1 : Int32), vr a2, vi (2 : Int32), vi (1 : Int32), vi k1] [(.ref w), (.int (1 : Int32))]) := fun t_ k_ => go163 t_ (st164 t_ k_)
      obtain ⟨cl166, Ar166, -, Sz166, Nn166, -, -⟩ := id VL
      have go167 : Go p e below s₁ F0 T164 (mkF m 34 #[vr a1, vr a2, vi (1 : Int32), vr a2, vi (2 : Int32), vi (1 : Int32), vi k1] [(.ref a1)]) := by
        intro t_ k_
        refine go165 t_ ?_
        refine o_len X164 hx hZ e164 Ar166 Sz166 Nn166 (hb hby d6_29) ?_
        refine o_icmpNo X164 hx (hb hby d6_30) (tlt (by decide : (1 : Int32) < (3 : Int32))).2.1 ?_
        refine o_aloadN X164 hx (hb hby d6_33) rfl rfl ?_
        exact k_
      obtain ⟨T168, X168, e168, st168⟩ := getF X164 hx hZ hown (host := "") (Or.inl (own_w hw 26 rfl)) Via.refl e164 Fl (g := (mkF m 34 #[vr a1, vr a2, vi (1 : Int32), vr a2, vi (2 : Int32), vi (1 : Int32), vi k1] [(.ref a1)])) rfl rfl (hb hby d6_34)
      have go169 : Go p e below s₁ F0 T168 (mkF m 37 #[vr a1, vr a2, vi (1 : Int32), vr a2, vi (2 : Int32), vi (1 : Int32), vi k1] [(.ref w)]) := fun t_ k_ => go167 t_ (st168 t_ k_)
      have go170 : Go p e below s₁ F0 T168 (mkF m 38 #[vr a1, vr a2, vi (1 : Int32), vr a2, vi (2 : Int32), vi (1 : Int32), vi k1] [(.int (1 : Int32)), (.ref w)]) := by
        intro t_ k_
        refine go169 t_ ?_
        refine o_iloadN X168 hx (hb hby d6_37) rfl ?_
        exact k_
      obtain ⟨cl171, Ar171, -, Sz171, Nn171, Hs171, -⟩ := id VL
      have hin171 : ¬ ((1 : Int32) < 0 ∨ cl171.slots.size ≤ ((1 : Int32)).toNatClampNeg) := inb_of Sz171 ⟨by decide, by decide⟩
      have hat171 : cl171.slots[((1 : Int32)).toNatClampNeg]? = some (.int l1) := Hs171.at hin171 rfl
      have go172 : Go p e below s₁ F0 T168 (mkF m 41 #[vr a1, vr a2, vi (1 : Int32), vr a2, vi (2 : Int32), vi (1 : Int32), vi k1] [(.int k1), (.int l1)]) := by
        intro t_ k_
        refine go170 t_ ?_
        refine o_iaload X168 hx hZ e168 Ar171 hin171 hat171 (hb hby d6_38) ?_
        refine o_iload X168 hx (hb hby d6_39) rfl ?_
        exact k_
      by_cases hc41_173 : l1 < k1
      · skip
        have go174 : Go p e below s₁ F0 T168 (mkF m 26 #[vr a1, vr a2, vi (2 : Int32), vr a2, vi (2 : Int32), vi (1 : Int32), vi k1] [(.ref a1), (.int (2 : Int32))]) := by
          intro t_ k_
          refine go172 t_ ?_
          refine o_icmpNo X168 hx (hb hby d6_41) (tlt hc41_173).2.1 ?_
          refine o_iinc X168 hx (hb hby d6_44) rfl (L' := #[vr a1, vr a2, vi (2 : Int32), vr a2, vi (2 : Int32), vi (1 : Int32), vi k1]) rfl ?_
          refine o_goto X168 hx (hb hby d6_47) (pc' := 24) rfl (by decide) ?_
          refine o_iloadN X168 hx (hb hby d6_24) rfl ?_
          refine o_aloadN X168 hx (hb hby d6_25) rfl rfl ?_
          exact k_
        obtain ⟨T175, X175, e175, st175⟩ := getF X168 hx hZ hown (host := "") (Or.inl (own_w hw 26 rfl)) Via.refl e168 Fl (g := (mkF m 26 #[vr a1, vr a2, vi (2 : Int32), vr a2, vi (2 : Int32), vi (1 : Int32), vi k1] [(.ref a1), (.int (2 : Int32))])) rfl rfl (hb hby d6_26)
        have go176 : Go p e below s₁ F0 T175 (mkF m 29 #[vr a1, vr a2, vi (2 : Int32), vr a2, vi (2 : Int32), vi (1 : Int32), vi k1] [(.ref w), (.int (2 : Int32))]) := fun t_ k_ => go174 t_ (st175 t_ k_)
        obtain ⟨cl177, Ar177, -, Sz177, Nn177, -, -⟩ := id VL
        have go178 : Go p e below s₁ F0 T175 (mkF m 34 #[vr a1, vr a2, vi (2 : Int32), vr a2, vi (2 : Int32), vi (1 : Int32), vi k1] [(.ref a1)]) := by
          intro t_ k_
          refine go176 t_ ?_
          refine o_len X175 hx hZ e175 Ar177 Sz177 Nn177 (hb hby d6_29) ?_
          refine o_icmpNo X175 hx (hb hby d6_30) (tlt (by decide : (2 : Int32) < (3 : Int32))).2.1 ?_
          refine o_aloadN X175 hx (hb hby d6_33) rfl rfl ?_
          exact k_
        obtain ⟨T179, X179, e179, st179⟩ := getF X175 hx hZ hown (host := "") (Or.inl (own_w hw 26 rfl)) Via.refl e175 Fl (g := (mkF m 34 #[vr a1, vr a2, vi (2 : Int32), vr a2, vi (2 : Int32), vi (1 : Int32), vi k1] [(.ref a1)])) rfl rfl (hb hby d6_34)
        have go180 : Go p e below s₁ F0 T179 (mkF m 37 #[vr a1, vr a2, vi (2 : Int32), vr a2, vi (2 : Int32), vi (1 : Int32), vi k1] [(.ref w)]) := fun t_ k_ => go178 t_ (st179 t_ k_)
        have go181 : Go p e below s₁ F0 T179 (mkF m 38 #[vr a1, vr a2, vi (2 : Int32), vr a2, vi (2 : Int32), vi (1 : Int32), vi k1] [(.int (2 : Int32)), (.ref w)]) := by
          intro t_ k_
          refine go180 t_ ?_
          refine o_iloadN X179 hx (hb hby d6_37) rfl ?_
          exact k_
        obtain ⟨cl182, Ar182, -, Sz182, Nn182, Hs182, -⟩ := id VL
        have hin182 : ¬ ((2 : Int32) < 0 ∨ cl182.slots.size ≤ ((2 : Int32)).toNatClampNeg) := inb_of Sz182 ⟨by decide, by decide⟩
        have hat182 : cl182.slots[((2 : Int32)).toNatClampNeg]? = some (.int l2) := Hs182.at hin182 rfl
        have go183 : Go p e below s₁ F0 T179 (mkF m 41 #[vr a1, vr a2, vi (2 : Int32), vr a2, vi (2 : Int32), vi (1 : Int32), vi k1] [(.int k1), (.int l2)]) := by
          intro t_ k_
          refine go181 t_ ?_
          refine o_iaload X179 hx hZ e179 Ar182 hin182 hat182 (hb hby d6_38) ?_
          refine o_iload X179 hx (hb hby d6_39) rfl ?_
          exact k_
        by_cases hc41_184 : l2 < k1
        · skip
          have go185 : Go p e below s₁ F0 T179 (mkF m 26 #[vr a1, vr a2, vi (3 : Int32), vr a2, vi (2 : Int32), vi (1 : Int32), vi k1] [(.ref a1), (.int (3 : Int32))]) := by
            intro t_ k_
            refine go183 t_ ?_
            refine o_icmpNo X179 hx (hb hby d6_41) (tlt hc41_184).2.1 ?_
            refine o_iinc X179 hx (hb hby d6_44) rfl (L' := #[vr a1, vr a2, vi (3 : Int32), vr a2, vi (2 : Int32), vi (1 : Int32), vi k1]) rfl ?_
            refine o_goto X179 hx (hb hby d6_47) (pc' := 24) rfl (by decide) ?_
            refine o_iloadN X179 hx (hb hby d6_24) rfl ?_
            refine o_aloadN X179 hx (hb hby d6_25) rfl rfl ?_
            exact k_
          obtain ⟨T186, X186, e186, st186⟩ := getF X179 hx hZ hown (host := "") (Or.inl (own_w hw 26 rfl)) Via.refl e179 Fl (g := (mkF m 26 #[vr a1, vr a2, vi (3 : Int32), vr a2, vi (2 : Int32), vi (1 : Int32), vi k1] [(.ref a1), (.int (3 : Int32))])) rfl rfl (hb hby d6_26)
          have go187 : Go p e below s₁ F0 T186 (mkF m 29 #[vr a1, vr a2, vi (3 : Int32), vr a2, vi (2 : Int32), vi (1 : Int32), vi k1] [(.ref w), (.int (3 : Int32))]) := fun t_ k_ => go185 t_ (st186 t_ k_)
          obtain ⟨cl188, Ar188, -, Sz188, Nn188, -, -⟩ := id VL
          have go189 : Go p e below s₁ F0 T186 (mkF m 52 #[vr a1, vr a2, vi (3 : Int32), vr a2, vi (2 : Int32), vi (1 : Int32), vi k1] [(.ref a1), (.int (3 : Int32))]) := by
            intro t_ k_
            refine go187 t_ ?_
            refine o_len X186 hx hZ e186 Ar188 Sz188 Nn188 (hb hby d6_29) ?_
            refine o_icmpYes X186 hx (hb hby d6_30) (pc' := 50) rfl (by decide) (flt (by decide : ¬ ((3 : Int32) < (3 : Int32)))).2.1 ?_
            refine o_iloadN X186 hx (hb hby d6_50) rfl ?_
            refine o_aloadN X186 hx (hb hby d6_51) rfl rfl ?_
            exact k_
          obtain ⟨T190, X190, e190, st190⟩ := getF X186 hx hZ hown (host := "") (Or.inl (own_w hw 26 rfl)) Via.refl e186 Fl (g := (mkF m 52 #[vr a1, vr a2, vi (3 : Int32), vr a2, vi (2 : Int32), vi (1 : Int32), vi k1] [(.ref a1), (.int (3 : Int32))])) rfl rfl (hb hby d6_52)
          have go191 : Go p e below s₁ F0 T190 (mkF m 55 #[vr a1, vr a2, vi (3 : Int32), vr a2, vi (2 : Int32), vi (1 : Int32), vi k1] [(.ref w), (.int (3 : Int32))]) := fun t_ k_ => go189 t_ (st190 t_ k_)
          obtain ⟨cl192, Ar192, -, Sz192, Nn192, -, -⟩ := id VL
          have go193 : Go p e below s₁ F0 T190 (mkF m 71 #[vr a1, vr a2, vi (3 : Int32), vr a2, vi (2 : Int32), vi (1 : Int32), vi k1] [(.int (0 : Int32))]) := by
            intro t_ k_
            refine go191 t_ ?_
            refine o_len X190 hx hZ e190 Ar192 Sz192 Nn192 (hb hby d6_55) ?_
            refine o_icmpYes X190 hx (hb hby d6_56) (pc' := 70) rfl (by decide) (teq (by decide : (3 : Int32) = (3 : Int32))).1 ?_
            refine o_iconst X190 hx (hb hby d6_70) (v := 0) rfl ?_
            exact k_
          obtain ⟨fs, hr, hrun, hended, hW, hsame⟩ := X190.leave (v := some (.int (0 : Int32))) (fun h => by rw [Bd.returns] at h; cases h)
          refine ⟨_, _, pre0 _ (go193 _ ?_), hrun, hended, _, _, rfl, ?_, ⟨_, rfl⟩, hW, hsame.mono (by decide) (by decide)⟩
          · skip
            exact retN X190 hx (t := .boolean) Bd.returns (by simp) (hb hby d6_71) hr
          · show Q6_3_2 Z a1 a2 w kw kn l0 l1 l2 k0 k1 h0 n0 _ T190.heap _
            rw [e190]
            exact ⟨(congrArg (fun z => some (Value.int z)) (show (0 : Int32) = f6_3_2 l0 l1 l2 k0 k1 from by unfold f6_3_2; rw [if_neg hc41_15, if_pos hc67_149, if_pos hc41_173, if_pos hc41_184])), N0, rfl⟩
        · skip
          have go194 : Go p e below s₁ F0 T179 (mkF m 52 #[vr a1, vr a2, vi (2 : Int32), vr a2, vi (2 : Int32), vi (1 : Int32), vi k1] [(.ref a1), (.int (2 : Int32))]) := by
            intro t_ k_
            refine go183 t_ ?_
            refine o_icmpYes X179 hx (hb hby d6_41) (pc' := 50) rfl (by decide) (flt hc41_184).2.1 ?_
            refine o_iloadN X179 hx (hb hby d6_50) rfl ?_
            refine o_aloadN X179 hx (hb hby d6_51) rfl rfl ?_
            exact k_
          obtain ⟨T195, X195, e195, st195⟩ := getF X179 hx hZ hown (host := "") (Or.inl (own_w hw 26 rfl)) Via.refl e179 Fl (g := (mkF m 52 #[vr a1, vr a2, vi (2 : Int32), vr a2, vi (2 : Int32), vi (1 : Int32), vi k1] [(.ref a1), (.int (2 : Int32))])) rfl rfl (hb hby d6_52)
          have go196 : Go p e below s₁ F0 T195 (mkF m 55 #[vr a1, vr a2, vi (2 : Int32), vr a2, vi (2 : Int32), vi (1 : Int32), vi k1] [(.ref w), (.int (2 : Int32))]) := fun t_ k_ => go194 t_ (st195 t_ k_)
          obtain ⟨cl197, Ar197, -, Sz197, Nn197, -, -⟩ := id VL
          have go198 : Go p e below s₁ F0 T195 (mkF m 60 #[vr a1, vr a2, vi (2 : Int32), vr a2, vi (2 : Int32), vi (1 : Int32), vi k1] [(.ref a1)]) := by
            intro t_ k_
            refine go196 t_ ?_
            refine o_len X195 hx hZ e195 Ar197 Sz197 Nn197 (hb hby d6_55) ?_
            refine o_icmpNo X195 hx (hb hby d6_56) (feq (by decide : ¬ ((2 : Int32) = (3 : Int32)))).1 ?_
            refine o_aloadN X195 hx (hb hby d6_59) rfl rfl ?_
            exact k_
          obtain ⟨T199, X199, e199, st199⟩ := getF X195 hx hZ hown (host := "") (Or.inl (own_w hw 26 rfl)) Via.refl e195 Fl (g := (mkF m 60 #[vr a1, vr a2, vi (2 : Int32), vr a2, vi (2 : Int32), vi (1 : Int32), vi k1] [(.ref a1)])) rfl rfl (hb hby d6_60)
          have go200 : Go p e below s₁ F0 T199 (mkF m 63 #[vr a1, vr a2, vi (2 : Int32), vr a2, vi (2 : Int32), vi (1 : Int32), vi k1] [(.ref w)]) := fun t_ k_ => go198 t_ (st199 t_ k_)
          have go201 : Go p e below s₁ F0 T199 (mkF m 64 #[vr a1, vr a2, vi (2 : Int32), vr a2, vi (2 : Int32), vi (1 : Int32), vi k1] [(.int (2 : Int32)), (.ref w)]) := by
            intro t_ k_
            refine go200 t_ ?_
            refine o_iloadN X199 hx (hb hby d6_63) rfl ?_
            exact k_
          obtain ⟨cl202, Ar202, -, Sz202, Nn202, Hs202, -⟩ := id VL
          have hin202 : ¬ ((2 : Int32) < 0 ∨ cl202.slots.size ≤ ((2 : Int32)).toNatClampNeg) := inb_of Sz202 ⟨by decide, by decide⟩
          have hat202 : cl202.slots[((2 : Int32)).toNatClampNeg]? = some (.int l2) := Hs202.at hin202 rfl
          have go203 : Go p e below s₁ F0 T199 (mkF m 67 #[vr a1, vr a2, vi (2 : Int32), vr a2, vi (2 : Int32), vi (1 : Int32), vi k1] [(.int k1), (.int l2)]) := by
            intro t_ k_
            refine go201 t_ ?_
            refine o_iaload X199 hx hZ e199 Ar202 hin202 hat202 (hb hby d6_64) ?_
            refine o_iload X199 hx (hb hby d6_65) rfl ?_
            exact k_
          by_cases hc67_204 : l2 = k1
          · skip
            have go205 : Go p e below s₁ F0 T199 (mkF m 79 #[vr a1, vr a2, vi (2 : Int32), vr a2, vi (2 : Int32), vi (2 : Int32), vi k1] [(.int (1 : Int32))]) := by
              intro t_ k_
              refine go203 t_ ?_
              refine o_icmpYes X199 hx (hb hby d6_67) (pc' := 72) rfl (by decide) (teq hc67_204).1 ?_
              refine o_iinc X199 hx (hb hby d6_72) rfl (L' := #[vr a1, vr a2, vi (2 : Int32), vr a2, vi (2 : Int32), vi (2 : Int32), vi k1]) rfl ?_
              refine o_goto X199 hx (hb hby d6_75) (pc' := 11) rfl (by decide) ?_
              refine o_iload X199 hx (hb hby d6_11) rfl ?_
              refine o_iload X199 hx (hb hby d6_13) rfl ?_
              refine o_icmpYes X199 hx (hb hby d6_15) (pc' := 78) rfl (by decide) (flt (by decide : ¬ ((2 : Int32) < (2 : Int32)))).2.1 ?_
              refine o_iconst X199 hx (hb hby d6_78) (v := 1) rfl ?_
              exact k_
            obtain ⟨fs, hr, hrun, hended, hW, hsame⟩ := X199.leave (v := some (.int (1 : Int32))) (fun h => by rw [Bd.returns] at h; cases h)
            refine ⟨_, _, pre0 _ (go205 _ ?_), hrun, hended, _, _, rfl, ?_, ⟨_, rfl⟩, hW, hsame.mono (by decide) (by decide)⟩
            · skip
              exact retN X199 hx (t := .boolean) Bd.returns (by simp) (hb hby d6_79) hr
            · show Q6_3_2 Z a1 a2 w kw kn l0 l1 l2 k0 k1 h0 n0 _ T199.heap _
              rw [e199]
              exact ⟨(congrArg (fun z => some (Value.int z)) (show (1 : Int32) = f6_3_2 l0 l1 l2 k0 k1 from by unfold f6_3_2; rw [if_neg hc41_15, if_pos hc67_149, if_pos hc41_173, if_neg hc41_184, if_pos hc67_204])), N0, rfl⟩
          · skip
            have go206 : Go p e below s₁ F0 T199 (mkF m 71 #[vr a1, vr a2, vi (2 : Int32), vr a2, vi (2 : Int32), vi (1 : Int32), vi k1] [(.int (0 : Int32))]) := by
              intro t_ k_
              refine go203 t_ ?_
              refine o_icmpNo X199 hx (hb hby d6_67) (feq hc67_204).1 ?_
              refine o_iconst X199 hx (hb hby d6_70) (v := 0) rfl ?_
              exact k_
            obtain ⟨fs, hr, hrun, hended, hW, hsame⟩ := X199.leave (v := some (.int (0 : Int32))) (fun h => by rw [Bd.returns] at h; cases h)
            refine ⟨_, _, pre0 _ (go206 _ ?_), hrun, hended, _, _, rfl, ?_, ⟨_, rfl⟩, hW, hsame.mono (by decide) (by decide)⟩
            · skip
              exact retN X199 hx (t := .boolean) Bd.returns (by simp) (hb hby d6_71) hr
            · show Q6_3_2 Z a1 a2 w kw kn l0 l1 l2 k0 k1 h0 n0 _ T199.heap _
              rw [e199]
              exact ⟨(congrArg (fun z => some (Value.int z)) (show (0 : Int32) = f6_3_2 l0 l1 l2 k0 k1 from by unfold f6_3_2; rw [if_neg hc41_15, if_pos hc67_149, if_pos hc41_173, if_neg hc41_184, if_neg hc67_204])), N0, rfl⟩
      · skip
        have go207 : Go p e below s₁ F0 T168 (mkF m 52 #[vr a1, vr a2, vi (1 : Int32), vr a2, vi (2 : Int32), vi (1 : Int32), vi k1] [(.ref a1), (.int (1 : Int32))]) := by
          intro t_ k_
          refine go172 t_ ?_
          refine o_icmpYes X168 hx (hb hby d6_41) (pc' := 50) rfl (by decide) (flt hc41_173).2.1 ?_
          refine o_iloadN X168 hx (hb hby d6_50) rfl ?_
          refine o_aloadN X168 hx (hb hby d6_51) rfl rfl ?_
          exact k_
        obtain ⟨T208, X208, e208, st208⟩ := getF X168 hx hZ hown (host := "") (Or.inl (own_w hw 26 rfl)) Via.refl e168 Fl (g := (mkF m 52 #[vr a1, vr a2, vi (1 : Int32), vr a2, vi (2 : Int32), vi (1 : Int32), vi k1] [(.ref a1), (.int (1 : Int32))])) rfl rfl (hb hby d6_52)
        have go209 : Go p e below s₁ F0 T208 (mkF m 55 #[vr a1, vr a2, vi (1 : Int32), vr a2, vi (2 : Int32), vi (1 : Int32), vi k1] [(.ref w), (.int (1 : Int32))]) := fun t_ k_ => go207 t_ (st208 t_ k_)
        obtain ⟨cl210, Ar210, -, Sz210, Nn210, -, -⟩ := id VL
        have go211 : Go p e below s₁ F0 T208 (mkF m 60 #[vr a1, vr a2, vi (1 : Int32), vr a2, vi (2 : Int32), vi (1 : Int32), vi k1] [(.ref a1)]) := by
          intro t_ k_
          refine go209 t_ ?_
          refine o_len X208 hx hZ e208 Ar210 Sz210 Nn210 (hb hby d6_55) ?_
          refine o_icmpNo X208 hx (hb hby d6_56) (feq (by decide : ¬ ((1 : Int32) = (3 : Int32)))).1 ?_
          refine o_aloadN X208 hx (hb hby d6_59) rfl rfl ?_
          exact k_
        obtain ⟨T212, X212, e212, st212⟩ := getF X208 hx hZ hown (host := "") (Or.inl (own_w hw 26 rfl)) Via.refl e208 Fl (g := (mkF m 60 #[vr a1, vr a2, vi (1 : Int32), vr a2, vi (2 : Int32), vi (1 : Int32), vi k1] [(.ref a1)])) rfl rfl (hb hby d6_60)
        have go213 : Go p e below s₁ F0 T212 (mkF m 63 #[vr a1, vr a2, vi (1 : Int32), vr a2, vi (2 : Int32), vi (1 : Int32), vi k1] [(.ref w)]) := fun t_ k_ => go211 t_ (st212 t_ k_)
        have go214 : Go p e below s₁ F0 T212 (mkF m 64 #[vr a1, vr a2, vi (1 : Int32), vr a2, vi (2 : Int32), vi (1 : Int32), vi k1] [(.int (1 : Int32)), (.ref w)]) := by
          intro t_ k_
          refine go213 t_ ?_
          refine o_iloadN X212 hx (hb hby d6_63) rfl ?_
          exact k_
        obtain ⟨cl215, Ar215, -, Sz215, Nn215, Hs215, -⟩ := id VL
        have hin215 : ¬ ((1 : Int32) < 0 ∨ cl215.slots.size ≤ ((1 : Int32)).toNatClampNeg) := inb_of Sz215 ⟨by decide, by decide⟩
        have hat215 : cl215.slots[((1 : Int32)).toNatClampNeg]? = some (.int l1) := Hs215.at hin215 rfl
        have go216 : Go p e below s₁ F0 T212 (mkF m 67 #[vr a1, vr a2, vi (1 : Int32), vr a2, vi (2 : Int32), vi (1 : Int32), vi k1] [(.int k1), (.int l1)]) := by
          intro t_ k_
          refine go214 t_ ?_
          refine o_iaload X212 hx hZ e212 Ar215 hin215 hat215 (hb hby d6_64) ?_
          refine o_iload X212 hx (hb hby d6_65) rfl ?_
          exact k_
        by_cases hc67_217 : l1 = k1
        · skip
          have go218 : Go p e below s₁ F0 T212 (mkF m 79 #[vr a1, vr a2, vi (1 : Int32), vr a2, vi (2 : Int32), vi (2 : Int32), vi k1] [(.int (1 : Int32))]) := by
            intro t_ k_
            refine go216 t_ ?_
            refine o_icmpYes X212 hx (hb hby d6_67) (pc' := 72) rfl (by decide) (teq hc67_217).1 ?_
            refine o_iinc X212 hx (hb hby d6_72) rfl (L' := #[vr a1, vr a2, vi (1 : Int32), vr a2, vi (2 : Int32), vi (2 : Int32), vi k1]) rfl ?_
            refine o_goto X212 hx (hb hby d6_75) (pc' := 11) rfl (by decide) ?_
            refine o_iload X212 hx (hb hby d6_11) rfl ?_
            refine o_iload X212 hx (hb hby d6_13) rfl ?_
            refine o_icmpYes X212 hx (hb hby d6_15) (pc' := 78) rfl (by decide) (flt (by decide : ¬ ((2 : Int32) < (2 : Int32)))).2.1 ?_
            refine o_iconst X212 hx (hb hby d6_78) (v := 1) rfl ?_
            exact k_
          obtain ⟨fs, hr, hrun, hended, hW, hsame⟩ := X212.leave (v := some (.int (1 : Int32))) (fun h => by rw [Bd.returns] at h; cases h)
          refine ⟨_, _, pre0 _ (go218 _ ?_), hrun, hended, _, _, rfl, ?_, ⟨_, rfl⟩, hW, hsame.mono (by decide) (by decide)⟩
          · skip
            exact retN X212 hx (t := .boolean) Bd.returns (by simp) (hb hby d6_79) hr
          · show Q6_3_2 Z a1 a2 w kw kn l0 l1 l2 k0 k1 h0 n0 _ T212.heap _
            rw [e212]
            exact ⟨(congrArg (fun z => some (Value.int z)) (show (1 : Int32) = f6_3_2 l0 l1 l2 k0 k1 from by unfold f6_3_2; rw [if_neg hc41_15, if_pos hc67_149, if_neg hc41_173, if_pos hc67_217])), N0, rfl⟩
        · skip
          have go219 : Go p e below s₁ F0 T212 (mkF m 71 #[vr a1, vr a2, vi (1 : Int32), vr a2, vi (2 : Int32), vi (1 : Int32), vi k1] [(.int (0 : Int32))]) := by
            intro t_ k_
            refine go216 t_ ?_
            refine o_icmpNo X212 hx (hb hby d6_67) (feq hc67_217).1 ?_
            refine o_iconst X212 hx (hb hby d6_70) (v := 0) rfl ?_
            exact k_
          obtain ⟨fs, hr, hrun, hended, hW, hsame⟩ := X212.leave (v := some (.int (0 : Int32))) (fun h => by rw [Bd.returns] at h; cases h)
          refine ⟨_, _, pre0 _ (go219 _ ?_), hrun, hended, _, _, rfl, ?_, ⟨_, rfl⟩, hW, hsame.mono (by decide) (by decide)⟩
          · skip
            exact retN X212 hx (t := .boolean) Bd.returns (by simp) (hb hby d6_71) hr
          · show Q6_3_2 Z a1 a2 w kw kn l0 l1 l2 k0 k1 h0 n0 _ T212.heap _
            rw [e212]
            exact ⟨(congrArg (fun z => some (Value.int z)) (show (0 : Int32) = f6_3_2 l0 l1 l2 k0 k1 from by unfold f6_3_2; rw [if_neg hc41_15, if_pos hc67_149, if_neg hc41_173, if_neg hc67_217])), N0, rfl⟩
    · skip
      have go220 : Go p e below s₁ F0 T144 (mkF m 71 #[vr a1, vr a2, vi (0 : Int32), vr a2, vi (2 : Int32), vi (0 : Int32), vi k0] [(.int (0 : Int32))]) := by
        intro t_ k_
        refine go148 t_ ?_
        refine o_icmpNo X144 hx (hb hby d6_67) (feq hc67_149).1 ?_
        refine o_iconst X144 hx (hb hby d6_70) (v := 0) rfl ?_
        exact k_
      obtain ⟨fs, hr, hrun, hended, hW, hsame⟩ := X144.leave (v := some (.int (0 : Int32))) (fun h => by rw [Bd.returns] at h; cases h)
      refine ⟨_, _, pre0 _ (go220 _ ?_), hrun, hended, _, _, rfl, ?_, ⟨_, rfl⟩, hW, hsame.mono (by decide) (by decide)⟩
      · skip
        exact retN X144 hx (t := .boolean) Bd.returns (by simp) (hb hby d6_71) hr
      · show Q6_3_2 Z a1 a2 w kw kn l0 l1 l2 k0 k1 h0 n0 _ T144.heap _
        rw [e144]
        exact ⟨(congrArg (fun z => some (Value.int z)) (show (0 : Int32) = f6_3_2 l0 l1 l2 k0 k1 from by unfold f6_3_2; rw [if_neg hc41_15, if_neg hc67_149])), N0, rfl⟩

theorem pn_6_3_3 : plainName "com/example/slackline/slackline/workload/Farm$Machine" = true := by first | (simp [plainName, overriddenIn]; done) | decide +kernel
theorem ef_6_3_3 (m : MethodId) (x0 : Addr) (x1 : Addr) : entryFrame m #[(.ref x0), (.ref x1)] 7 = mkF m 0 #[vr x0, vr x1, .unset, .unset, .unset, .unset, .unset] [] := by first | (simp [entryFrame, mkF, argsToLocals, Value.category]; done) | rfl
def f6_3_3 (l0 : Int32) (l1 : Int32) (l2 : Int32) (k0 : Int32) (k1 : Int32) (k2 : Int32) : Int32 := (if l0 < k0 then (if l1 < k0 then (if l2 < k0 then (0 : Int32) else (if l2 = k0 then (0 : Int32) else (0 : Int32))) else (if l1 = k0 then (if l2 < k1 then (0 : Int32) else (if l2 = k1 then (0 : Int32) else (0 : Int32))) else (0 : Int32))) else (if l0 = k0 then (if l1 < k1 then (if l2 < k1 then (0 : Int32) else (if l2 = k1 then (0 : Int32) else (0 : Int32))) else (if l1 = k1 then (if l2 < k2 then (0 : Int32) else (if l2 = k2 then (1 : Int32) else (0 : Int32))) else (0 : Int32))) else (0 : Int32)))
def Q6_3_3 (Z : State) (a1 : Addr) (a2 : Addr) (w : Addr) (kw : ClassId) (kn : ClassId) (l0 : Int32) (l1 : Int32) (l2 : Int32) (k0 : Int32) (k1 : Int32) (k2 : Int32) (h0 : Heap) (n0 : Nat) (v : Option Value) (h : Heap) (L : List Loc) : Prop := v = some (.int (f6_3_3 l0 l1 l2 k0 k1 k2)) ∧ Fr n0 L ∧ h = h0
set_option maxRecDepth 65536 in
set_option maxHeartbeats 40000000 in
theorem rm6_3_3 (l : Launch) (Z : State) (a0 : Array Value) (hw : ∀ d ∈ tables_1, d.before a0 Z = true) (ws : List Jvm.Cond) (a1 : Addr) (a2 : Addr) (w : Addr) (kw : ClassId) (kn : ClassId) (l0 : Int32) (l1 : Int32) (l2 : Int32) (k0 : Int32) (k1 : Int32) (k2 : Int32) (h0 : Heap) (n0 : Nat) (Z0 : n0 ≤ h0.size) (Fl : Fld Z h0 a1 c_0 "licences" "[I" (.ref w)) (VL : Arv Z h0 w kw .int (3 : Int32) [(.int l0), (.int l1), (.int l2)] (.int (0 : Int32))) (VN : Arv Z h0 a2 kn .int (3 : Int32) [(.int k0), (.int k1), (.int k2)] (.int (0 : Int32))) (s0 : k0 < k1) (s1 : k1 < k2) :
    MetFree l y_4 (head1 (Jvm.Cond.code y_4 prog_150_method_2_code 7 (some .boolean) :: ws) ({ frames := 0, cells := 0, slots := 0, locals := 0 } : Room)) (fun a U => a = #[(.ref a1), (.ref a2)] ∧ Z.Warmed39 U.vm ∧ U.heap = h0) (fun _ _ _ _ _ => True) (fun _ U o U' => ∃ v L, o = .returned v ∧ Q6_3_3 Z a1 a2 w kw kn l0 l1 l2 k0 k1 k2 h0 n0 v U'.heap L ∧ FrameEnd U o U' L ({ frames := 0, cells := 0, slots := 0, locals := 0 } : Room).cells ({ frames := 0, cells := 0, slots := 0, locals := 0 } : Room).slots) := by
  refine MetFree.of_bodySF (plainFor_of_name pn_6_3_3) hisR ?_
  intro p e s m args below meth c s₁ Bd hml0 hP hK
  obtain ⟨rfl, hZ, hh⟩ := hP
  have hx := Bd.exec
  have hby := Bd.bytes
  have hml : c.maxLocals = 7 := hml0
  have hown : s.vm.findClass "com/example/slackline/slackline/workload/Farm$Machine" = some m.cls := findClass_of_methodNamed Bd.named
  have hnm := (name_of_methodNamed Bd.named Bd.method).1
  have X0 : Stand p l e ({ frames := 0, cells := 0, slots := 0, locals := 0 } : Room) s m #[(.ref a1), (.ref a2)] below meth c s₁ [] 0 0 := Stand.of_body Bd
  have e0 : s₁.heap = h0 := by rw [← hh, Bd.state]; rfl
  have N0 := Fr.nil n0
  obtain ⟨F0, hF0⟩ : ∃ F : JFrame, F = entryFrame m #[(.ref a1), (.ref a2)] 7 := ⟨_, rfl⟩
  have pre0 : ∀ t, Steps p.tables e below (s₁.setTop F0) t → Steps p.tables e below (s₁.setTop (entryFrame m #[(.ref a1), (.ref a2)] 7)) t := fun t k => hF0 ▸ k
  have go0 : Go p e below s₁ F0 s₁ (mkF m 0 #[vr a1, vr a2, .unset, .unset, .unset, .unset, .unset] []) := fun t k => castTop (hF0.trans (ef_6_3_3 m a1 a2)) k
  have go1 : Go p e below s₁ F0 s₁ (mkF m 5 #[vr a1, vr a2, vi (0 : Int32), vr a2, .unset, .unset, .unset] [(.ref a2)]) := by
    intro t_ k_
    refine go0 t_ ?_
    refine o_iconst X0 hx (hb hby d6_0) (v := 0) rfl ?_
    refine o_istoreN X0 hx (hb hby d6_1) (L' := #[vr a1, vr a2, vi (0 : Int32), .unset, .unset, .unset, .unset]) rfl ?_
    refine o_aloadN X0 hx (hb hby d6_2) rfl rfl ?_
    refine o_astoreN X0 hx (hb hby d6_3) rfl (L' := #[vr a1, vr a2, vi (0 : Int32), vr a2, .unset, .unset, .unset]) rfl ?_
    refine o_aloadN X0 hx (hb hby d6_4) rfl rfl ?_
    exact k_
  obtain ⟨cl2, Ar2, -, Sz2, Nn2, -, -⟩ := id VN
  have go3 : Go p e below s₁ F0 s₁ (mkF m 21 #[vr a1, vr a2, vi (0 : Int32), vr a2, vi (3 : Int32), vi (0 : Int32), .unset] [(.int (0 : Int32)), (.ref a2)]) := by
    intro t_ k_
    refine go1 t_ ?_
    refine o_len X0 hx hZ e0 Ar2 Sz2 Nn2 (hb hby d6_5) ?_
    refine o_istore X0 hx (hb hby d6_6) (L' := #[vr a1, vr a2, vi (0 : Int32), vr a2, vi (3 : Int32), .unset, .unset]) rfl ?_
    refine o_iconst X0 hx (hb hby d6_8) (v := 0) rfl ?_
    refine o_istore X0 hx (hb hby d6_9) (L' := #[vr a1, vr a2, vi (0 : Int32), vr a2, vi (3 : Int32), vi (0 : Int32), .unset]) rfl ?_
    refine o_iload X0 hx (hb hby d6_11) rfl ?_
    refine o_iload X0 hx (hb hby d6_13) rfl ?_
    refine o_icmpNo X0 hx (hb hby d6_15) (tlt (by decide : (0 : Int32) < (3 : Int32))).2.1 ?_
    refine o_aloadN X0 hx (hb hby d6_18) rfl rfl ?_
    refine o_iload X0 hx (hb hby d6_19) rfl ?_
    exact k_
  obtain ⟨cl4, Ar4, -, Sz4, Nn4, Hs4, -⟩ := id VN
  have hin4 : ¬ ((0 : Int32) < 0 ∨ cl4.slots.size ≤ ((0 : Int32)).toNatClampNeg) := inb_of Sz4 ⟨by decide, by decide⟩
  have hat4 : cl4.slots[((0 : Int32)).toNatClampNeg]? = some (.int k0) := Hs4.at hin4 rfl
  have go5 : Go p e below s₁ F0 s₁ (mkF m 26 #[vr a1, vr a2, vi (0 : Int32), vr a2, vi (3 : Int32), vi (0 : Int32), vi k0] [(.ref a1), (.int (0 : Int32))]) := by
    intro t_ k_
    refine go3 t_ ?_
    refine o_iaload X0 hx hZ e0 Ar4 hin4 hat4 (hb hby d6_21) ?_
    refine o_istore X0 hx (hb hby d6_22) (L' := #[vr a1, vr a2, vi (0 : Int32), vr a2, vi (3 : Int32), vi (0 : Int32), vi k0]) rfl ?_
    refine o_iloadN X0 hx (hb hby d6_24) rfl ?_
    refine o_aloadN X0 hx (hb hby d6_25) rfl rfl ?_
    exact k_
  obtain ⟨T6, X6, e6, st6⟩ := getF X0 hx hZ hown (host := "") (Or.inl (own_w hw 26 rfl)) Via.refl e0 Fl (g := (mkF m 26 #[vr a1, vr a2, vi (0 : Int32), vr a2, vi (3 : Int32), vi (0 : Int32), vi k0] [(.ref a1), (.int (0 : Int32))])) rfl rfl (hb hby d6_26)
  have go7 : Go p e below s₁ F0 T6 (mkF m 29 #[vr a1, vr a2, vi (0 : Int32), vr a2, vi (3 : Int32), vi (0 : Int32), vi k0] [(.ref w), (.int (0 : Int32))]) := fun t_ k_ => go5 t_ (st6 t_ k_)
  obtain ⟨cl8, Ar8, -, Sz8, Nn8, -, -⟩ := id VL
  have go9 : Go p e below s₁ F0 T6 (mkF m 34 #[vr a1, vr a2, vi (0 : Int32), vr a2, vi (3 : Int32), vi (0 : Int32), vi k0] [(.ref a1)]) := by
    intro t_ k_
    refine go7 t_ ?_
    refine o_len X6 hx hZ e6 Ar8 Sz8 Nn8 (hb hby d6_29) ?_
    refine o_icmpNo X6 hx (hb hby d6_30) (tlt (by decide : (0 : Int32) < (3 : Int32))).2.1 ?_
    refine o_aloadN X6 hx (hb hby d6_33) rfl rfl ?_
    exact k_
  obtain ⟨T10, X10, e10, st10⟩ := getF X6 hx hZ hown (host := "") (Or.inl (own_w hw 26 rfl)) Via.refl e6 Fl (g := (mkF m 34 #[vr a1, vr a2, vi (0 : Int32), vr a2, vi (3 : Int32), vi (0 : Int32), vi k0] [(.ref a1)])) rfl rfl (hb hby d6_34)
  have go11 : Go p e below s₁ F0 T10 (mkF m 37 #[vr a1, vr a2, vi (0 : Int32), vr a2, vi (3 : Int32), vi (0 : Int32), vi k0] [(.ref w)]) := fun t_ k_ => go9 t_ (st10 t_ k_)
  have go12 : Go p e below s₁ F0 T10 (mkF m 38 #[vr a1, vr a2, vi (0 : Int32), vr a2, vi (3 : Int32), vi (0 : Int32), vi k0] [(.int (0 : Int32)), (.ref w)]) := by
    intro t_ k_
    refine go11 t_ ?_
    refine o_iloadN X10 hx (hb hby d6_37) rfl ?_
    exact k_
  obtain ⟨cl13, Ar13, -, Sz13, Nn13, Hs13, -⟩ := id VL
  have hin13 : ¬ ((0 : Int32) < 0 ∨ cl13.slots.size ≤ ((0 : Int32)).toNatClampNeg) := inb_of Sz13 ⟨by decide, by decide⟩
  have hat13 : cl13.slots[((0 : Int32)).toNatClampNeg]? = some (.int l0) := Hs13.at hin13 rfl
  have go14 : Go p e below s₁ F0 T10 (mkF m 41 #[vr a1, vr a2, vi (0 : Int32), vr a2, vi (3 : Int32), vi (0 : Int32), vi k0] [(.int k0), (.int l0)]) := by
    intro t_ k_
    refine go12 t_ ?_
    refine o_iaload X10 hx hZ e10 Ar13 hin13 hat13 (hb hby d6_38) ?_
    refine o_iload X10 hx (hb hby d6_39) rfl ?_
    exact k_
  by_cases hc41_15 : l0 < k0
  · skip
    have go16 : Go p e below s₁ F0 T10 (mkF m 26 #[vr a1, vr a2, vi (1 : Int32), vr a2, vi (3 : Int32), vi (0 : Int32), vi k0] [(.ref a1), (.int (1 : Int32))]) := by
      intro t_ k_
      refine go14 t_ ?_
      refine o_icmpNo X10 hx (hb hby d6_41) (tlt hc41_15).2.1 ?_
      refine o_iinc X10 hx (hb hby d6_44) rfl (L' := #[vr a1, vr a2, vi (1 : Int32), vr a2, vi (3 : Int32), vi (0 : Int32), vi k0]) rfl ?_
      refine o_goto X10 hx (hb hby d6_47) (pc' := 24) rfl (by decide) ?_
      refine o_iloadN X10 hx (hb hby d6_24) rfl ?_
      refine o_aloadN X10 hx (hb hby d6_25) rfl rfl ?_
      exact k_
    obtain ⟨T17, X17, e17, st17⟩ := getF X10 hx hZ hown (host := "") (Or.inl (own_w hw 26 rfl)) Via.refl e10 Fl (g := (mkF m 26 #[vr a1, vr a2, vi (1 : Int32), vr a2, vi (3 : Int32), vi (0 : Int32), vi k0] [(.ref a1), (.int (1 : Int32))])) rfl rfl (hb hby d6_26)
    have go18 : Go p e below s₁ F0 T17 (mkF m 29 #[vr a1, vr a2, vi (1 : Int32), vr a2, vi (3 : Int32), vi (0 : Int32), vi k0] [(.ref w), (.int (1 : Int32))]) := fun t_ k_ => go16 t_ (st17 t_ k_)
    obtain ⟨cl19, Ar19, -, Sz19, Nn19, -, -⟩ := id VL
    have go20 : Go p e below s₁ F0 T17 (mkF m 34 #[vr a1, vr a2, vi (1 : Int32), vr a2, vi (3 : Int32), vi (0 : Int32), vi k0] [(.ref a1)]) := by
      intro t_ k_
      refine go18 t_ ?_
      refine o_len X17 hx hZ e17 Ar19 Sz19 Nn19 (hb hby d6_29) ?_
      refine o_icmpNo X17 hx (hb hby d6_30) (tlt (by decide : (1 : Int32) < (3 : Int32))).2.1 ?_
      refine o_aloadN X17 hx (hb hby d6_33) rfl rfl ?_
      exact k_
    obtain ⟨T21, X21, e21, st21⟩ := getF X17 hx hZ hown (host := "") (Or.inl (own_w hw 26 rfl)) Via.refl e17 Fl (g := (mkF m 34 #[vr a1, vr a2, vi (1 : Int32), vr a2, vi (3 : Int32), vi (0 : Int32), vi k0] [(.ref a1)])) rfl rfl (hb hby d6_34)
    have go22 : Go p e below s₁ F0 T21 (mkF m 37 #[vr a1, vr a2, vi (1 : Int32), vr a2, vi (3 : Int32), vi (0 : Int32), vi k0] [(.ref w)]) := fun t_ k_ => go20 t_ (st21 t_ k_)
    have go23 : Go p e below s₁ F0 T21 (mkF m 38 #[vr a1, vr a2, vi (1 : Int32), vr a2, vi (3 : Int32), vi (0 : Int32), vi k0] [(.int (1 : Int32)), (.ref w)]) := by
      intro t_ k_
      refine go22 t_ ?_
      refine o_iloadN X21 hx (hb hby d6_37) rfl ?_
      exact k_
    obtain ⟨cl24, Ar24, -, Sz24, Nn24, Hs24, -⟩ := id VL
    have hin24 : ¬ ((1 : Int32) < 0 ∨ cl24.slots.size ≤ ((1 : Int32)).toNatClampNeg) := inb_of Sz24 ⟨by decide, by decide⟩
    have hat24 : cl24.slots[((1 : Int32)).toNatClampNeg]? = some (.int l1) := Hs24.at hin24 rfl
    have go25 : Go p e below s₁ F0 T21 (mkF m 41 #[vr a1, vr a2, vi (1 : Int32), vr a2, vi (3 : Int32), vi (0 : Int32), vi k0] [(.int k0), (.int l1)]) := by
      intro t_ k_
      refine go23 t_ ?_
      refine o_iaload X21 hx hZ e21 Ar24 hin24 hat24 (hb hby d6_38) ?_
      refine o_iload X21 hx (hb hby d6_39) rfl ?_
      exact k_
    by_cases hc41_26 : l1 < k0
    · skip
      have go27 : Go p e below s₁ F0 T21 (mkF m 26 #[vr a1, vr a2, vi (2 : Int32), vr a2, vi (3 : Int32), vi (0 : Int32), vi k0] [(.ref a1), (.int (2 : Int32))]) := by
        intro t_ k_
        refine go25 t_ ?_
        refine o_icmpNo X21 hx (hb hby d6_41) (tlt hc41_26).2.1 ?_
        refine o_iinc X21 hx (hb hby d6_44) rfl (L' := #[vr a1, vr a2, vi (2 : Int32), vr a2, vi (3 : Int32), vi (0 : Int32), vi k0]) rfl ?_
        refine o_goto X21 hx (hb hby d6_47) (pc' := 24) rfl (by decide) ?_
        refine o_iloadN X21 hx (hb hby d6_24) rfl ?_
        refine o_aloadN X21 hx (hb hby d6_25) rfl rfl ?_
        exact k_
      obtain ⟨T28, X28, e28, st28⟩ := getF X21 hx hZ hown (host := "") (Or.inl (own_w hw 26 rfl)) Via.refl e21 Fl (g := (mkF m 26 #[vr a1, vr a2, vi (2 : Int32), vr a2, vi (3 : Int32), vi (0 : Int32), vi k0] [(.ref a1), (.int (2 : Int32))])) rfl rfl (hb hby d6_26)
      have go29 : Go p e below s₁ F0 T28 (mkF m 29 #[vr a1, vr a2, vi (2 : Int32), vr a2, vi (3 : Int32), vi (0 : Int32), vi k0] [(.ref w), (.int (2 : Int32))]) := fun t_ k_ => go27 t_ (st28 t_ k_)
      obtain ⟨cl30, Ar30, -, Sz30, Nn30, -, -⟩ := id VL
      have go31 : Go p e below s₁ F0 T28 (mkF m 34 #[vr a1, vr a2, vi (2 : Int32), vr a2, vi (3 : Int32), vi (0 : Int32), vi k0] [(.ref a1)]) := by
        intro t_ k_
        refine go29 t_ ?_
        refine o_len X28 hx hZ e28 Ar30 Sz30 Nn30 (hb hby d6_29) ?_
        refine o_icmpNo X28 hx (hb hby d6_30) (tlt (by decide : (2 : Int32) < (3 : Int32))).2.1 ?_
        refine o_aloadN X28 hx (hb hby d6_33) rfl rfl ?_
        exact k_
      obtain ⟨T32, X32, e32, st32⟩ := getF X28 hx hZ hown (host := "") (Or.inl (own_w hw 26 rfl)) Via.refl e28 Fl (g := (mkF m 34 #[vr a1, vr a2, vi (2 : Int32), vr a2, vi (3 : Int32), vi (0 : Int32), vi k0] [(.ref a1)])) rfl rfl (hb hby d6_34)
      have go33 : Go p e below s₁ F0 T32 (mkF m 37 #[vr a1, vr a2, vi (2 : Int32), vr a2, vi (3 : Int32), vi (0 : Int32), vi k0] [(.ref w)]) := fun t_ k_ => go31 t_ (st32 t_ k_)
      have go34 : Go p e below s₁ F0 T32 (mkF m 38 #[vr a1, vr a2, vi (2 : Int32), vr a2, vi (3 : Int32), vi (0 : Int32), vi k0] [(.int (2 : Int32)), (.ref w)]) := by
        intro t_ k_
        refine go33 t_ ?_
        refine o_iloadN X32 hx (hb hby d6_37) rfl ?_
        exact k_
      obtain ⟨cl35, Ar35, -, Sz35, Nn35, Hs35, -⟩ := id VL
      have hin35 : ¬ ((2 : Int32) < 0 ∨ cl35.slots.size ≤ ((2 : Int32)).toNatClampNeg) := inb_of Sz35 ⟨by decide, by decide⟩
      have hat35 : cl35.slots[((2 : Int32)).toNatClampNeg]? = some (.int l2) := Hs35.at hin35 rfl
      have go36 : Go p e below s₁ F0 T32 (mkF m 41 #[vr a1, vr a2, vi (2 : Int32), vr a2, vi (3 : Int32), vi (0 : Int32), vi k0] [(.int k0), (.int l2)]) := by
        intro t_ k_
        refine go34 t_ ?_
        refine o_iaload X32 hx hZ e32 Ar35 hin35 hat35 (hb hby d6_38) ?_
        refine o_iload X32 hx (hb hby d6_39) rfl ?_
        exact k_
      by_cases hc41_37 : l2 < k0
      · skip
        have go38 : Go p e below s₁ F0 T32 (mkF m 26 #[vr a1, vr a2, vi (3 : Int32), vr a2, vi (3 : Int32), vi (0 : Int32), vi k0] [(.ref a1), (.int (3 : Int32))]) := by
          intro t_ k_
          refine go36 t_ ?_
          refine o_icmpNo X32 hx (hb hby d6_41) (tlt hc41_37).2.1 ?_
          refine o_iinc X32 hx (hb hby d6_44) rfl (L' := #[vr a1, vr a2, vi (3 : Int32), vr a2, vi (3 : Int32), vi (0 : Int32), vi k0]) rfl ?_
          refine o_goto X32 hx (hb hby d6_47) (pc' := 24) rfl (by decide) ?_
          refine o_iloadN X32 hx (hb hby d6_24) rfl ?_
          refine o_aloadN X32 hx (hb hby d6_25) rfl rfl ?_
          exact k_
        obtain ⟨T39, X39, e39, st39⟩ := getF X32 hx hZ hown (host := "") (Or.inl (own_w hw 26 rfl)) Via.refl e32 Fl (g := (mkF m 26 #[vr a1, vr a2, vi (3 : Int32), vr a2, vi (3 : Int32), vi (0 : Int32), vi k0] [(.ref a1), (.int (3 : Int32))])) rfl rfl (hb hby d6_26)
        have go40 : Go p e below s₁ F0 T39 (mkF m 29 #[vr a1, vr a2, vi (3 : Int32), vr a2, vi (3 : Int32), vi (0 : Int32), vi k0] [(.ref w), (.int (3 : Int32))]) := fun t_ k_ => go38 t_ (st39 t_ k_)
        obtain ⟨cl41, Ar41, -, Sz41, Nn41, -, -⟩ := id VL
        have go42 : Go p e below s₁ F0 T39 (mkF m 52 #[vr a1, vr a2, vi (3 : Int32), vr a2, vi (3 : Int32), vi (0 : Int32), vi k0] [(.ref a1), (.int (3 : Int32))]) := by
          intro t_ k_
          refine go40 t_ ?_
          refine o_len X39 hx hZ e39 Ar41 Sz41 Nn41 (hb hby d6_29) ?_
          refine o_icmpYes X39 hx (hb hby d6_30) (pc' := 50) rfl (by decide) (flt (by decide : ¬ ((3 : Int32) < (3 : Int32)))).2.1 ?_
          refine o_iloadN X39 hx (hb hby d6_50) rfl ?_
          refine o_aloadN X39 hx (hb hby d6_51) rfl rfl ?_
          exact k_
        obtain ⟨T43, X43, e43, st43⟩ := getF X39 hx hZ hown (host := "") (Or.inl (own_w hw 26 rfl)) Via.refl e39 Fl (g := (mkF m 52 #[vr a1, vr a2, vi (3 : Int32), vr a2, vi (3 : Int32), vi (0 : Int32), vi k0] [(.ref a1), (.int (3 : Int32))])) rfl rfl (hb hby d6_52)
        have go44 : Go p e below s₁ F0 T43 (mkF m 55 #[vr a1, vr a2, vi (3 : Int32), vr a2, vi (3 : Int32), vi (0 : Int32), vi k0] [(.ref w), (.int (3 : Int32))]) := fun t_ k_ => go42 t_ (st43 t_ k_)
        obtain ⟨cl45, Ar45, -, Sz45, Nn45, -, -⟩ := id VL
        have go46 : Go p e below s₁ F0 T43 (mkF m 71 #[vr a1, vr a2, vi (3 : Int32), vr a2, vi (3 : Int32), vi (0 : Int32), vi k0] [(.int (0 : Int32))]) := by
          intro t_ k_
          refine go44 t_ ?_
          refine o_len X43 hx hZ e43 Ar45 Sz45 Nn45 (hb hby d6_55) ?_
          refine o_icmpYes X43 hx (hb hby d6_56) (pc' := 70) rfl (by decide) (teq (by decide : (3 : Int32) = (3 : Int32))).1 ?_
          refine o_iconst X43 hx (hb hby d6_70) (v := 0) rfl ?_
          exact k_
        obtain ⟨fs, hr, hrun, hended, hW, hsame⟩ := X43.leave (v := some (.int (0 : Int32))) (fun h => by rw [Bd.returns] at h; cases h)
        refine ⟨_, _, pre0 _ (go46 _ ?_), hrun, hended, _, _, rfl, ?_, ⟨_, rfl⟩, hW, hsame.mono (by decide) (by decide)⟩
        · skip
          exact retN X43 hx (t := .boolean) Bd.returns (by simp) (hb hby d6_71) hr
        · show Q6_3_3 Z a1 a2 w kw kn l0 l1 l2 k0 k1 k2 h0 n0 _ T43.heap _
          rw [e43]
          exact ⟨(congrArg (fun z => some (Value.int z)) (show (0 : Int32) = f6_3_3 l0 l1 l2 k0 k1 k2 from by unfold f6_3_3; rw [if_pos hc41_15, if_pos hc41_26, if_pos hc41_37])), N0, rfl⟩
      · skip
        have go47 : Go p e below s₁ F0 T32 (mkF m 52 #[vr a1, vr a2, vi (2 : Int32), vr a2, vi (3 : Int32), vi (0 : Int32), vi k0] [(.ref a1), (.int (2 : Int32))]) := by
          intro t_ k_
          refine go36 t_ ?_
          refine o_icmpYes X32 hx (hb hby d6_41) (pc' := 50) rfl (by decide) (flt hc41_37).2.1 ?_
          refine o_iloadN X32 hx (hb hby d6_50) rfl ?_
          refine o_aloadN X32 hx (hb hby d6_51) rfl rfl ?_
          exact k_
        obtain ⟨T48, X48, e48, st48⟩ := getF X32 hx hZ hown (host := "") (Or.inl (own_w hw 26 rfl)) Via.refl e32 Fl (g := (mkF m 52 #[vr a1, vr a2, vi (2 : Int32), vr a2, vi (3 : Int32), vi (0 : Int32), vi k0] [(.ref a1), (.int (2 : Int32))])) rfl rfl (hb hby d6_52)
        have go49 : Go p e below s₁ F0 T48 (mkF m 55 #[vr a1, vr a2, vi (2 : Int32), vr a2, vi (3 : Int32), vi (0 : Int32), vi k0] [(.ref w), (.int (2 : Int32))]) := fun t_ k_ => go47 t_ (st48 t_ k_)
        obtain ⟨cl50, Ar50, -, Sz50, Nn50, -, -⟩ := id VL
        have go51 : Go p e below s₁ F0 T48 (mkF m 60 #[vr a1, vr a2, vi (2 : Int32), vr a2, vi (3 : Int32), vi (0 : Int32), vi k0] [(.ref a1)]) := by
          intro t_ k_
          refine go49 t_ ?_
          refine o_len X48 hx hZ e48 Ar50 Sz50 Nn50 (hb hby d6_55) ?_
          refine o_icmpNo X48 hx (hb hby d6_56) (feq (by decide : ¬ ((2 : Int32) = (3 : Int32)))).1 ?_
          refine o_aloadN X48 hx (hb hby d6_59) rfl rfl ?_
          exact k_
        obtain ⟨T52, X52, e52, st52⟩ := getF X48 hx hZ hown (host := "") (Or.inl (own_w hw 26 rfl)) Via.refl e48 Fl (g := (mkF m 60 #[vr a1, vr a2, vi (2 : Int32), vr a2, vi (3 : Int32), vi (0 : Int32), vi k0] [(.ref a1)])) rfl rfl (hb hby d6_60)
        have go53 : Go p e below s₁ F0 T52 (mkF m 63 #[vr a1, vr a2, vi (2 : Int32), vr a2, vi (3 : Int32), vi (0 : Int32), vi k0] [(.ref w)]) := fun t_ k_ => go51 t_ (st52 t_ k_)
        have go54 : Go p e below s₁ F0 T52 (mkF m 64 #[vr a1, vr a2, vi (2 : Int32), vr a2, vi (3 : Int32), vi (0 : Int32), vi k0] [(.int (2 : Int32)), (.ref w)]) := by
          intro t_ k_
          refine go53 t_ ?_
          refine o_iloadN X52 hx (hb hby d6_63) rfl ?_
          exact k_
        obtain ⟨cl55, Ar55, -, Sz55, Nn55, Hs55, -⟩ := id VL
        have hin55 : ¬ ((2 : Int32) < 0 ∨ cl55.slots.size ≤ ((2 : Int32)).toNatClampNeg) := inb_of Sz55 ⟨by decide, by decide⟩
        have hat55 : cl55.slots[((2 : Int32)).toNatClampNeg]? = some (.int l2) := Hs55.at hin55 rfl
        have go56 : Go p e below s₁ F0 T52 (mkF m 67 #[vr a1, vr a2, vi (2 : Int32), vr a2, vi (3 : Int32), vi (0 : Int32), vi k0] [(.int k0), (.int l2)]) := by
          intro t_ k_
          refine go54 t_ ?_
          refine o_iaload X52 hx hZ e52 Ar55 hin55 hat55 (hb hby d6_64) ?_
          refine o_iload X52 hx (hb hby d6_65) rfl ?_
          exact k_
        by_cases hc67_57 : l2 = k0
        · skip
          have go58 : Go p e below s₁ F0 T52 (mkF m 21 #[vr a1, vr a2, vi (2 : Int32), vr a2, vi (3 : Int32), vi (1 : Int32), vi k0] [(.int (1 : Int32)), (.ref a2)]) := by
            intro t_ k_
            refine go56 t_ ?_
            refine o_icmpYes X52 hx (hb hby d6_67) (pc' := 72) rfl (by decide) (teq hc67_57).1 ?_
            refine o_iinc X52 hx (hb hby d6_72) rfl (L' := #[vr a1, vr a2, vi (2 : Int32), vr a2, vi (3 : Int32), vi (1 : Int32), vi k0]) rfl ?_
            refine o_goto X52 hx (hb hby d6_75) (pc' := 11) rfl (by decide) ?_
            refine o_iload X52 hx (hb hby d6_11) rfl ?_
            refine o_iload X52 hx (hb hby d6_13) rfl ?_
            refine o_icmpNo X52 hx (hb hby d6_15) (tlt (by decide : (1 : Int32) < (3 : Int32))).2.1 ?_
            refine o_aloadN X52 hx (hb hby d6_18) rfl rfl ?_
            refine o_iload X52 hx (hb hby d6_19) rfl ?_
            exact k_
          obtain ⟨cl59, Ar59, -, Sz59, Nn59, Hs59, -⟩ := id VN
          have hin59 : ¬ ((1 : Int32) < 0 ∨ cl59.slots.size ≤ ((1 : Int32)).toNatClampNeg) := inb_of Sz59 ⟨by decide, by decide⟩
          have hat59 : cl59.slots[((1 : Int32)).toNatClampNeg]? = some (.int k1) := Hs59.at hin59 rfl
          have go60 : Go p e below s₁ F0 T52 (mkF m 26 #[vr a1, vr a2, vi (2 : Int32), vr a2, vi (3 : Int32), vi (1 : Int32), vi k1] [(.ref a1), (.int (2 : Int32))]) := by
            intro t_ k_
            refine go58 t_ ?_
            refine o_iaload X52 hx hZ e52 Ar59 hin59 hat59 (hb hby d6_21) ?_
            refine o_istore X52 hx (hb hby d6_22) (L' := #[vr a1, vr a2, vi (2 : Int32), vr a2, vi (3 : Int32), vi (1 : Int32), vi k1]) rfl ?_
            refine o_iloadN X52 hx (hb hby d6_24) rfl ?_
            refine o_aloadN X52 hx (hb hby d6_25) rfl rfl ?_
            exact k_
          obtain ⟨T61, X61, e61, st61⟩ := getF X52 hx hZ hown (host := "") (Or.inl (own_w hw 26 rfl)) Via.refl e52 Fl (g := (mkF m 26 #[vr a1, vr a2, vi (2 : Int32), vr a2, vi (3 : Int32), vi (1 : Int32), vi k1] [(.ref a1), (.int (2 : Int32))])) rfl rfl (hb hby d6_26)
          have go62 : Go p e below s₁ F0 T61 (mkF m 29 #[vr a1, vr a2, vi (2 : Int32), vr a2, vi (3 : Int32), vi (1 : Int32), vi k1] [(.ref w), (.int (2 : Int32))]) := fun t_ k_ => go60 t_ (st61 t_ k_)
          obtain ⟨cl63, Ar63, -, Sz63, Nn63, -, -⟩ := id VL
          have go64 : Go p e below s₁ F0 T61 (mkF m 34 #[vr a1, vr a2, vi (2 : Int32), vr a2, vi (3 : Int32), vi (1 : Int32), vi k1] [(.ref a1)]) := by
            intro t_ k_
            refine go62 t_ ?_
            refine o_len X61 hx hZ e61 Ar63 Sz63 Nn63 (hb hby d6_29) ?_
            refine o_icmpNo X61 hx (hb hby d6_30) (tlt (by decide : (2 : Int32) < (3 : Int32))).2.1 ?_
            refine o_aloadN X61 hx (hb hby d6_33) rfl rfl ?_
            exact k_
          obtain ⟨T65, X65, e65, st65⟩ := getF X61 hx hZ hown (host := "") (Or.inl (own_w hw 26 rfl)) Via.refl e61 Fl (g := (mkF m 34 #[vr a1, vr a2, vi (2 : Int32), vr a2, vi (3 : Int32), vi (1 : Int32), vi k1] [(.ref a1)])) rfl rfl (hb hby d6_34)
          have go66 : Go p e below s₁ F0 T65 (mkF m 37 #[vr a1, vr a2, vi (2 : Int32), vr a2, vi (3 : Int32), vi (1 : Int32), vi k1] [(.ref w)]) := fun t_ k_ => go64 t_ (st65 t_ k_)
          have go67 : Go p e below s₁ F0 T65 (mkF m 38 #[vr a1, vr a2, vi (2 : Int32), vr a2, vi (3 : Int32), vi (1 : Int32), vi k1] [(.int (2 : Int32)), (.ref w)]) := by
            intro t_ k_
            refine go66 t_ ?_
            refine o_iloadN X65 hx (hb hby d6_37) rfl ?_
            exact k_
          obtain ⟨cl68, Ar68, -, Sz68, Nn68, Hs68, -⟩ := id VL
          have hin68 : ¬ ((2 : Int32) < 0 ∨ cl68.slots.size ≤ ((2 : Int32)).toNatClampNeg) := inb_of Sz68 ⟨by decide, by decide⟩
          have hat68 : cl68.slots[((2 : Int32)).toNatClampNeg]? = some (.int l2) := Hs68.at hin68 rfl
          have go70 : Go p e below s₁ F0 T65 (mkF m 41 #[vr a1, vr a2, vi (2 : Int32), vr a2, vi (3 : Int32), vi (1 : Int32), vi k1] [(.int k1), (.int l2)]) := by
            intro t_ k_
            refine go67 t_ ?_
            refine o_iaload X65 hx hZ e65 Ar68 hin68 hat68 (hb hby d6_38) ?_
            refine o_iload X65 hx (hb hby d6_39) rfl ?_
            exact k_
          have hd69 : l2 < k1 := (by rw [hc67_57]; exact s0)
          have go71 : Go p e below s₁ F0 T65 (mkF m 26 #[vr a1, vr a2, vi (3 : Int32), vr a2, vi (3 : Int32), vi (1 : Int32), vi k1] [(.ref a1), (.int (3 : Int32))]) := by
            intro t_ k_
            refine go70 t_ ?_
            refine o_icmpNo X65 hx (hb hby d6_41) (tlt hd69).2.1 ?_
            refine o_iinc X65 hx (hb hby d6_44) rfl (L' := #[vr a1, vr a2, vi (3 : Int32), vr a2, vi (3 : Int32), vi (1 : Int32), vi k1]) rfl ?_
            refine o_goto X65 hx (hb hby d6_47) (pc' := 24) rfl (by decide) ?_
            refine o_iloadN X65 hx (hb hby d6_24) rfl ?_
            refine o_aloadN X65 hx (hb hby d6_25) rfl rfl ?_
            exact k_
          obtain ⟨T72, X72, e72, st72⟩ := getF X65 hx hZ hown (host := "") (Or.inl (own_w hw 26 rfl)) Via.refl e65 Fl (g := (mkF m 26 #[vr a1, vr a2, vi (3 : Int32), vr a2, vi (3 : Int32), vi (1 : Int32), vi k1] [(.ref a1), (.int (3 : Int32))])) rfl rfl (hb hby d6_26)
          have go73 : Go p e below s₁ F0 T72 (mkF m 29 #[vr a1, vr a2, vi (3 : Int32), vr a2, vi (3 : Int32), vi (1 : Int32), vi k1] [(.ref w), (.int (3 : Int32))]) := fun t_ k_ => go71 t_ (st72 t_ k_)
          obtain ⟨cl74, Ar74, -, Sz74, Nn74, -, -⟩ := id VL
          have go75 : Go p e below s₁ F0 T72 (mkF m 52 #[vr a1, vr a2, vi (3 : Int32), vr a2, vi (3 : Int32), vi (1 : Int32), vi k1] [(.ref a1), (.int (3 : Int32))]) := by
            intro t_ k_
            refine go73 t_ ?_
            refine o_len X72 hx hZ e72 Ar74 Sz74 Nn74 (hb hby d6_29) ?_
            refine o_icmpYes X72 hx (hb hby d6_30) (pc' := 50) rfl (by decide) (flt (by decide : ¬ ((3 : Int32) < (3 : Int32)))).2.1 ?_
            refine o_iloadN X72 hx (hb hby d6_50) rfl ?_
            refine o_aloadN X72 hx (hb hby d6_51) rfl rfl ?_
            exact k_
          obtain ⟨T76, X76, e76, st76⟩ := getF X72 hx hZ hown (host := "") (Or.inl (own_w hw 26 rfl)) Via.refl e72 Fl (g := (mkF m 52 #[vr a1, vr a2, vi (3 : Int32), vr a2, vi (3 : Int32), vi (1 : Int32), vi k1] [(.ref a1), (.int (3 : Int32))])) rfl rfl (hb hby d6_52)
          have go77 : Go p e below s₁ F0 T76 (mkF m 55 #[vr a1, vr a2, vi (3 : Int32), vr a2, vi (3 : Int32), vi (1 : Int32), vi k1] [(.ref w), (.int (3 : Int32))]) := fun t_ k_ => go75 t_ (st76 t_ k_)
          obtain ⟨cl78, Ar78, -, Sz78, Nn78, -, -⟩ := id VL
          have go79 : Go p e below s₁ F0 T76 (mkF m 71 #[vr a1, vr a2, vi (3 : Int32), vr a2, vi (3 : Int32), vi (1 : Int32), vi k1] [(.int (0 : Int32))]) := by
            intro t_ k_
            refine go77 t_ ?_
            refine o_len X76 hx hZ e76 Ar78 Sz78 Nn78 (hb hby d6_55) ?_
            refine o_icmpYes X76 hx (hb hby d6_56) (pc' := 70) rfl (by decide) (teq (by decide : (3 : Int32) = (3 : Int32))).1 ?_
            refine o_iconst X76 hx (hb hby d6_70) (v := 0) rfl ?_
            exact k_
          obtain ⟨fs, hr, hrun, hended, hW, hsame⟩ := X76.leave (v := some (.int (0 : Int32))) (fun h => by rw [Bd.returns] at h; cases h)
          refine ⟨_, _, pre0 _ (go79 _ ?_), hrun, hended, _, _, rfl, ?_, ⟨_, rfl⟩, hW, hsame.mono (by decide) (by decide)⟩
          · skip
            exact retN X76 hx (t := .boolean) Bd.returns (by simp) (hb hby d6_71) hr
          · show Q6_3_3 Z a1 a2 w kw kn l0 l1 l2 k0 k1 k2 h0 n0 _ T76.heap _
            rw [e76]
            exact ⟨(congrArg (fun z => some (Value.int z)) (show (0 : Int32) = f6_3_3 l0 l1 l2 k0 k1 k2 from by unfold f6_3_3; rw [if_pos hc41_15, if_pos hc41_26, if_neg hc41_37, if_pos hc67_57])), N0, rfl⟩
        · skip
          have go80 : Go p e below s₁ F0 T52 (mkF m 71 #[vr a1, vr a2, vi (2 : Int32), vr a2, vi (3 : Int32), vi (0 : Int32), vi k0] [(.int (0 : Int32))]) := by
            intro t_ k_
            refine go56 t_ ?_
            refine o_icmpNo X52 hx (hb hby d6_67) (feq hc67_57).1 ?_
            refine o_iconst X52 hx (hb hby d6_70) (v := 0) rfl ?_
            exact k_
          obtain ⟨fs, hr, hrun, hended, hW, hsame⟩ := X52.leave (v := some (.int (0 : Int32))) (fun h => by rw [Bd.returns] at h; cases h)
          refine ⟨_, _, pre0 _ (go80 _ ?_), hrun, hended, _, _, rfl, ?_, ⟨_, rfl⟩, hW, hsame.mono (by decide) (by decide)⟩
          · skip
            exact retN X52 hx (t := .boolean) Bd.returns (by simp) (hb hby d6_71) hr
          · show Q6_3_3 Z a1 a2 w kw kn l0 l1 l2 k0 k1 k2 h0 n0 _ T52.heap _
            rw [e52]
            exact ⟨(congrArg (fun z => some (Value.int z)) (show (0 : Int32) = f6_3_3 l0 l1 l2 k0 k1 k2 from by unfold f6_3_3; rw [if_pos hc41_15, if_pos hc41_26, if_neg hc41_37, if_neg hc67_57])), N0, rfl⟩
    · skip
      have go81 : Go p e below s₁ F0 T21 (mkF m 52 #[vr a1, vr a2, vi (1 : Int32), vr a2, vi (3 : Int32), vi (0 : Int32), vi k0] [(.ref a1), (.int (1 : Int32))]) := by
        intro t_ k_
        refine go25 t_ ?_
        refine o_icmpYes X21 hx (hb hby d6_41) (pc' := 50) rfl (by decide) (flt hc41_26).2.1 ?_
        refine o_iloadN X21 hx (hb hby d6_50) rfl ?_
        refine o_aloadN X21 hx (hb hby d6_51) rfl rfl ?_
        exact k_
      obtain ⟨T82, X82, e82, st82⟩ := getF X21 hx hZ hown (host := "") (Or.inl (own_w hw 26 rfl)) Via.refl e21 Fl (g := (mkF m 52 #[vr a1, vr a2, vi (1 : Int32), vr a2, vi (3 : Int32), vi (0 : Int32), vi k0] [(.ref a1), (.int (1 : Int32))])) rfl rfl (hb hby d6_52)
      have go83 : Go p e below s₁ F0 T82 (mkF m 55 #[vr a1, vr a2, vi (1 : Int32), vr a2, vi (3 : Int32), vi (0 : Int32), vi k0] [(.ref w), (.int (1 : Int32))]) := fun t_ k_ => go81 t_ (st82 t_ k_)
      obtain ⟨cl84, Ar84, -, Sz84, Nn84, -, -⟩ := id VL
      have go85 : Go p e below s₁ F0 T82 (mkF m 60 #[vr a1, vr a2, vi (1 : Int32), vr a2, vi (3 : Int32), vi (0 : Int32), vi k0] [(.ref a1)]) := by
        intro t_ k_
        refine go83 t_ ?_
        refine o_len X82 hx hZ e82 Ar84 Sz84 Nn84 (hb hby d6_55) ?_
        refine o_icmpNo X82 hx (hb hby d6_56) (feq (by decide : ¬ ((1 : Int32) = (3 : Int32)))).1 ?_
        refine o_aloadN X82 hx (hb hby d6_59) rfl rfl ?_
        exact k_
      obtain ⟨T86, X86, e86, st86⟩ := getF X82 hx hZ hown (host := "") (Or.inl (own_w hw 26 rfl)) Via.refl e82 Fl (g := (mkF m 60 #[vr a1, vr a2, vi (1 : Int32), vr a2, vi (3 : Int32), vi (0 : Int32), vi k0] [(.ref a1)])) rfl rfl (hb hby d6_60)
      have go87 : Go p e below s₁ F0 T86 (mkF m 63 #[vr a1, vr a2, vi (1 : Int32), vr a2, vi (3 : Int32), vi (0 : Int32), vi k0] [(.ref w)]) := fun t_ k_ => go85 t_ (st86 t_ k_)
      have go88 : Go p e below s₁ F0 T86 (mkF m 64 #[vr a1, vr a2, vi (1 : Int32), vr a2, vi (3 : Int32), vi (0 : Int32), vi k0] [(.int (1 : Int32)), (.ref w)]) := by
        intro t_ k_
        refine go87 t_ ?_
        refine o_iloadN X86 hx (hb hby d6_63) rfl ?_
        exact k_
      obtain ⟨cl89, Ar89, -, Sz89, Nn89, Hs89, -⟩ := id VL
      have hin89 : ¬ ((1 : Int32) < 0 ∨ cl89.slots.size ≤ ((1 : Int32)).toNatClampNeg) := inb_of Sz89 ⟨by decide, by decide⟩
      have hat89 : cl89.slots[((1 : Int32)).toNatClampNeg]? = some (.int l1) := Hs89.at hin89 rfl
      have go90 : Go p e below s₁ F0 T86 (mkF m 67 #[vr a1, vr a2, vi (1 : Int32), vr a2, vi (3 : Int32), vi (0 : Int32), vi k0] [(.int k0), (.int l1)]) := by
        intro t_ k_
        refine go88 t_ ?_
        refine o_iaload X86 hx hZ e86 Ar89 hin89 hat89 (hb hby d6_64) ?_
        refine o_iload X86 hx (hb hby d6_65) rfl ?_
        exact k_
      by_cases hc67_91 : l1 = k0
      · skip
        have go92 : Go p e below s₁ F0 T86 (mkF m 21 #[vr a1, vr a2, vi (1 : Int32), vr a2, vi (3 : Int32), vi (1 : Int32), vi k0] [(.int (1 : Int32)), (.ref a2)]) := by
          intro t_ k_
          refine go90 t_ ?_
          refine o_icmpYes X86 hx (hb hby d6_67) (pc' := 72) rfl (by decide) (teq hc67_91).1 ?_
          refine o_iinc X86 hx (hb hby d6_72) rfl (L' := #[vr a1, vr a2, vi (1 : Int32), vr a2, vi (3 : Int32), vi (1 : Int32), vi k0]) rfl ?_
          refine o_goto X86 hx (hb hby d6_75) (pc' := 11) rfl (by decide) ?_
          refine o_iload X86 hx (hb hby d6_11) rfl ?_
          refine o_iload X86 hx (hb hby d6_13) rfl ?_
          refine o_icmpNo X86 hx (hb hby d6_15) (tlt (by decide : (1 : Int32) < (3 : Int32))).2.1 ?_
          refine o_aloadN X86 hx (hb hby d6_18) rfl rfl ?_
          refine o_iload X86 hx (hb hby d6_19) rfl ?_
          exact k_
        obtain ⟨cl93, Ar93, -, Sz93, Nn93, Hs93, -⟩ := id VN
        have hin93 : ¬ ((1 : Int32) < 0 ∨ cl93.slots.size ≤ ((1 : Int32)).toNatClampNeg) := inb_of Sz93 ⟨by decide, by decide⟩
        have hat93 : cl93.slots[((1 : Int32)).toNatClampNeg]? = some (.int k1) := Hs93.at hin93 rfl
        have go94 : Go p e below s₁ F0 T86 (mkF m 26 #[vr a1, vr a2, vi (1 : Int32), vr a2, vi (3 : Int32), vi (1 : Int32), vi k1] [(.ref a1), (.int (1 : Int32))]) := by
          intro t_ k_
          refine go92 t_ ?_
          refine o_iaload X86 hx hZ e86 Ar93 hin93 hat93 (hb hby d6_21) ?_
          refine o_istore X86 hx (hb hby d6_22) (L' := #[vr a1, vr a2, vi (1 : Int32), vr a2, vi (3 : Int32), vi (1 : Int32), vi k1]) rfl ?_
          refine o_iloadN X86 hx (hb hby d6_24) rfl ?_
          refine o_aloadN X86 hx (hb hby d6_25) rfl rfl ?_
          exact k_
        obtain ⟨T95, X95, e95, st95⟩ := getF X86 hx hZ hown (host := "") (Or.inl (own_w hw 26 rfl)) Via.refl e86 Fl (g := (mkF m 26 #[vr a1, vr a2, vi (1 : Int32), vr a2, vi (3 : Int32), vi (1 : Int32), vi k1] [(.ref a1), (.int (1 : Int32))])) rfl rfl (hb hby d6_26)
        have go96 : Go p e below s₁ F0 T95 (mkF m 29 #[vr a1, vr a2, vi (1 : Int32), vr a2, vi (3 : Int32), vi (1 : Int32), vi k1] [(.ref w), (.int (1 : Int32))]) := fun t_ k_ => go94 t_ (st95 t_ k_)
        obtain ⟨cl97, Ar97, -, Sz97, Nn97, -, -⟩ := id VL
        have go98 : Go p e below s₁ F0 T95 (mkF m 34 #[vr a1, vr a2, vi (1 : Int32), vr a2, vi (3 : Int32), vi (1 : Int32), vi k1] [(.ref a1)]) := by
          intro t_ k_
          refine go96 t_ ?_
          refine o_len X95 hx hZ e95 Ar97 Sz97 Nn97 (hb hby d6_29) ?_
          refine o_icmpNo X95 hx (hb hby d6_30) (tlt (by decide : (1 : Int32) < (3 : Int32))).2.1 ?_
          refine o_aloadN X95 hx (hb hby d6_33) rfl rfl ?_
          exact k_
        obtain ⟨T99, X99, e99, st99⟩ := getF X95 hx hZ hown (host := "") (Or.inl (own_w hw 26 rfl)) Via.refl e95 Fl (g := (mkF m 34 #[vr a1, vr a2, vi (1 : Int32), vr a2, vi (3 : Int32), vi (1 : Int32), vi k1] [(.ref a1)])) rfl rfl (hb hby d6_34)
        have go100 : Go p e below s₁ F0 T99 (mkF m 37 #[vr a1, vr a2, vi (1 : Int32), vr a2, vi (3 : Int32), vi (1 : Int32), vi k1] [(.ref w)]) := fun t_ k_ => go98 t_ (st99 t_ k_)
        have go101 : Go p e below s₁ F0 T99 (mkF m 38 #[vr a1, vr a2, vi (1 : Int32), vr a2, vi (3 : Int32), vi (1 : Int32), vi k1] [(.int (1 : Int32)), (.ref w)]) := by
          intro t_ k_
          refine go100 t_ ?_
          refine o_iloadN X99 hx (hb hby d6_37) rfl ?_
          exact k_
        obtain ⟨cl102, Ar102, -, Sz102, Nn102, Hs102, -⟩ := id VL
        have hin102 : ¬ ((1 : Int32) < 0 ∨ cl102.slots.size ≤ ((1 : Int32)).toNatClampNeg) := inb_of Sz102 ⟨by decide, by decide⟩
        have hat102 : cl102.slots[((1 : Int32)).toNatClampNeg]? = some (.int l1) := Hs102.at hin102 rfl
        have go104 : Go p e below s₁ F0 T99 (mkF m 41 #[vr a1, vr a2, vi (1 : Int32), vr a2, vi (3 : Int32), vi (1 : Int32), vi k1] [(.int k1), (.int l1)]) := by
          intro t_ k_
          refine go101 t_ ?_
          refine o_iaload X99 hx hZ e99 Ar102 hin102 hat102 (hb hby d6_38) ?_
          refine o_iload X99 hx (hb hby d6_39) rfl ?_
          exact k_
        have hd103 : l1 < k1 := (by rw [hc67_91]; exact s0)
        have go105 : Go p e below s₁ F0 T99 (mkF m 26 #[vr a1, vr a2, vi (2 : Int32), vr a2, vi (3 : Int32), vi (1 : Int32), vi k1] [(.ref a1), (.int (2 : Int32))]) := by
          intro t_ k_
          refine go104 t_ ?_
          refine o_icmpNo X99 hx (hb hby d6_41) (tlt hd103).2.1 ?_
          refine o_iinc X99 hx (hb hby d6_44) rfl (L' := #[vr a1, vr a2, vi (2 : Int32), vr a2, vi (3 : Int32), vi (1 : Int32), vi k1]) rfl ?_
          refine o_goto X99 hx (hb hby d6_47) (pc' := 24) rfl (by decide) ?_
          refine o_iloadN X99 hx (hb hby d6_24) rfl ?_
          refine o_aloadN X99 hx (hb hby d6_25) rfl rfl ?_
          exact k_
        obtain ⟨T106, X106, e106, st106⟩ := getF X99 hx hZ hown (host := "") (Or.inl (own_w hw 26 rfl)) Via.refl e99 Fl (g := (mkF m 26 #[vr a1, vr a2, vi (2 : Int32), vr a2, vi (3 : Int32), vi (1 : Int32), vi k1] [(.ref a1), (.int (2 : Int32))])) rfl rfl (hb hby d6_26)
        have go107 : Go p e below s₁ F0 T106 (mkF m 29 #[vr a1, vr a2, vi (2 : Int32), vr a2, vi (3 : Int32), vi (1 : Int32), vi k1] [(.ref w), (.int (2 : Int32))]) := fun t_ k_ => go105 t_ (st106 t_ k_)
        obtain ⟨cl108, Ar108, -, Sz108, Nn108, -, -⟩ := id VL
        have go109 : Go p e below s₁ F0 T106 (mkF m 34 #[vr a1, vr a2, vi (2 : Int32), vr a2, vi (3 : Int32), vi (1 : Int32), vi k1] [(.ref a1)]) := by
          intro t_ k_
          refine go107 t_ ?_
          refine o_len X106 hx hZ e106 Ar108 Sz108 Nn108 (hb hby d6_29) ?_
          refine o_icmpNo X106 hx (hb hby d6_30) (tlt (by decide : (2 : Int32) < (3 : Int32))).2.1 ?_
          refine o_aloadN X106 hx (hb hby d6_33) rfl rfl ?_
          exact k_
        obtain ⟨T110, X110, e110, st110⟩ := getF X106 hx hZ hown (host := "") (Or.inl (own_w hw 26 rfl)) Via.refl e106 Fl (g := (mkF m 34 #[vr a1, vr a2, vi (2 : Int32), vr a2, vi (3 : Int32), vi (1 : Int32), vi k1] [(.ref a1)])) rfl rfl (hb hby d6_34)
        have go111 : Go p e below s₁ F0 T110 (mkF m 37 #[vr a1, vr a2, vi (2 : Int32), vr a2, vi (3 : Int32), vi (1 : Int32), vi k1] [(.ref w)]) := fun t_ k_ => go109 t_ (st110 t_ k_)
        have go112 : Go p e below s₁ F0 T110 (mkF m 38 #[vr a1, vr a2, vi (2 : Int32), vr a2, vi (3 : Int32), vi (1 : Int32), vi k1] [(.int (2 : Int32)), (.ref w)]) := by
          intro t_ k_
          refine go111 t_ ?_
          refine o_iloadN X110 hx (hb hby d6_37) rfl ?_
          exact k_
        obtain ⟨cl113, Ar113, -, Sz113, Nn113, Hs113, -⟩ := id VL
        have hin113 : ¬ ((2 : Int32) < 0 ∨ cl113.slots.size ≤ ((2 : Int32)).toNatClampNeg) := inb_of Sz113 ⟨by decide, by decide⟩
        have hat113 : cl113.slots[((2 : Int32)).toNatClampNeg]? = some (.int l2) := Hs113.at hin113 rfl
        have go114 : Go p e below s₁ F0 T110 (mkF m 41 #[vr a1, vr a2, vi (2 : Int32), vr a2, vi (3 : Int32), vi (1 : Int32), vi k1] [(.int k1), (.int l2)]) := by
          intro t_ k_
          refine go112 t_ ?_
          refine o_iaload X110 hx hZ e110 Ar113 hin113 hat113 (hb hby d6_38) ?_
          refine o_iload X110 hx (hb hby d6_39) rfl ?_
          exact k_
        by_cases hc41_115 : l2 < k1
        · skip
          have go116 : Go p e below s₁ F0 T110 (mkF m 26 #[vr a1, vr a2, vi (3 : Int32), vr a2, vi (3 : Int32), vi (1 : Int32), vi k1] [(.ref a1), (.int (3 : Int32))]) := by
            intro t_ k_
            refine go114 t_ ?_
            refine o_icmpNo X110 hx (hb hby d6_41) (tlt hc41_115).2.1 ?_
            refine o_iinc X110 hx (hb hby d6_44) rfl (L' := #[vr a1, vr a2, vi (3 : Int32), vr a2, vi (3 : Int32), vi (1 : Int32), vi k1]) rfl ?_
            refine o_goto X110 hx (hb hby d6_47) (pc' := 24) rfl (by decide) ?_
            refine o_iloadN X110 hx (hb hby d6_24) rfl ?_
            refine o_aloadN X110 hx (hb hby d6_25) rfl rfl ?_
            exact k_
          obtain ⟨T117, X117, e117, st117⟩ := getF X110 hx hZ hown (host := "") (Or.inl (own_w hw 26 rfl)) Via.refl e110 Fl (g := (mkF m 26 #[vr a1, vr a2, vi (3 : Int32), vr a2, vi (3 : Int32), vi (1 : Int32), vi k1] [(.ref a1), (.int (3 : Int32))])) rfl rfl (hb hby d6_26)
          have go118 : Go p e below s₁ F0 T117 (mkF m 29 #[vr a1, vr a2, vi (3 : Int32), vr a2, vi (3 : Int32), vi (1 : Int32), vi k1] [(.ref w), (.int (3 : Int32))]) := fun t_ k_ => go116 t_ (st117 t_ k_)
          obtain ⟨cl119, Ar119, -, Sz119, Nn119, -, -⟩ := id VL
          have go120 : Go p e below s₁ F0 T117 (mkF m 52 #[vr a1, vr a2, vi (3 : Int32), vr a2, vi (3 : Int32), vi (1 : Int32), vi k1] [(.ref a1), (.int (3 : Int32))]) := by
            intro t_ k_
            refine go118 t_ ?_
            refine o_len X117 hx hZ e117 Ar119 Sz119 Nn119 (hb hby d6_29) ?_
            refine o_icmpYes X117 hx (hb hby d6_30) (pc' := 50) rfl (by decide) (flt (by decide : ¬ ((3 : Int32) < (3 : Int32)))).2.1 ?_
            refine o_iloadN X117 hx (hb hby d6_50) rfl ?_
            refine o_aloadN X117 hx (hb hby d6_51) rfl rfl ?_
            exact k_
          obtain ⟨T121, X121, e121, st121⟩ := getF X117 hx hZ hown (host := "") (Or.inl (own_w hw 26 rfl)) Via.refl e117 Fl (g := (mkF m 52 #[vr a1, vr a2, vi (3 : Int32), vr a2, vi (3 : Int32), vi (1 : Int32), vi k1] [(.ref a1), (.int (3 : Int32))])) rfl rfl (hb hby d6_52)
          have go122 : Go p e below s₁ F0 T121 (mkF m 55 #[vr a1, vr a2, vi (3 : Int32), vr a2, vi (3 : Int32), vi (1 : Int32), vi k1] [(.ref w), (.int (3 : Int32))]) := fun t_ k_ => go120 t_ (st121 t_ k_)
          obtain ⟨cl123, Ar123, -, Sz123, Nn123, -, -⟩ := id VL
          have go124 : Go p e below s₁ F0 T121 (mkF m 71 #[vr a1, vr a2, vi (3 : Int32), vr a2, vi (3 : Int32), vi (1 : Int32), vi k1] [(.int (0 : Int32))]) := by
            intro t_ k_
            refine go122 t_ ?_
            refine o_len X121 hx hZ e121 Ar123 Sz123 Nn123 (hb hby d6_55) ?_
            refine o_icmpYes X121 hx (hb hby d6_56) (pc' := 70) rfl (by decide) (teq (by decide : (3 : Int32) = (3 : Int32))).1 ?_
            refine o_iconst X121 hx (hb hby d6_70) (v := 0) rfl ?_
            exact k_
          obtain ⟨fs, hr, hrun, hended, hW, hsame⟩ := X121.leave (v := some (.int (0 : Int32))) (fun h => by rw [Bd.returns] at h; cases h)
          refine ⟨_, _, pre0 _ (go124 _ ?_), hrun, hended, _, _, rfl, ?_, ⟨_, rfl⟩, hW, hsame.mono (by decide) (by decide)⟩
          · skip
            exact retN X121 hx (t := .boolean) Bd.returns (by simp) (hb hby d6_71) hr
          · show Q6_3_3 Z a1 a2 w kw kn l0 l1 l2 k0 k1 k2 h0 n0 _ T121.heap _
            rw [e121]
            exact ⟨(congrArg (fun z => some (Value.int z)) (show (0 : Int32) = f6_3_3 l0 l1 l2 k0 k1 k2 from by unfold f6_3_3; rw [if_pos hc41_15, if_neg hc41_26, if_pos hc67_91, if_pos hc41_115])), N0, rfl⟩
        · skip
          have go125 : Go p e below s₁ F0 T110 (mkF m 52 #[vr a1, vr a2, vi (2 : Int32), vr a2, vi (3 : Int32), vi (1 : Int32), vi k1] [(.ref a1), (.int (2 : Int32))]) := by
            intro t_ k_
            refine go114 t_ ?_
            refine o_icmpYes X110 hx (hb hby d6_41) (pc' := 50) rfl (by decide) (flt hc41_115).2.1 ?_
            refine o_iloadN X110 hx (hb hby d6_50) rfl ?_
            refine o_aloadN X110 hx (hb hby d6_51) rfl rfl ?_
            exact k_
          obtain ⟨T126, X126, e126, st126⟩ := getF X110 hx hZ hown (host := "") (Or.inl (own_w hw 26 rfl)) Via.refl e110 Fl (g := (mkF m 52 #[vr a1, vr a2, vi (2 : Int32), vr a2, vi (3 : Int32), vi (1 : Int32), vi k1] [(.ref a1), (.int (2 : Int32))])) rfl rfl (hb hby d6_52)
          have go127 : Go p e below s₁ F0 T126 (mkF m 55 #[vr a1, vr a2, vi (2 : Int32), vr a2, vi (3 : Int32), vi (1 : Int32), vi k1] [(.ref w), (.int (2 : Int32))]) := fun t_ k_ => go125 t_ (st126 t_ k_)
          obtain ⟨cl128, Ar128, -, Sz128, Nn128, -, -⟩ := id VL
          have go129 : Go p e below s₁ F0 T126 (mkF m 60 #[vr a1, vr a2, vi (2 : Int32), vr a2, vi (3 : Int32), vi (1 : Int32), vi k1] [(.ref a1)]) := by
            intro t_ k_
            refine go127 t_ ?_
            refine o_len X126 hx hZ e126 Ar128 Sz128 Nn128 (hb hby d6_55) ?_
            refine o_icmpNo X126 hx (hb hby d6_56) (feq (by decide : ¬ ((2 : Int32) = (3 : Int32)))).1 ?_
            refine o_aloadN X126 hx (hb hby d6_59) rfl rfl ?_
            exact k_
          obtain ⟨T130, X130, e130, st130⟩ := getF X126 hx hZ hown (host := "") (Or.inl (own_w hw 26 rfl)) Via.refl e126 Fl (g := (mkF m 60 #[vr a1, vr a2, vi (2 : Int32), vr a2, vi (3 : Int32), vi (1 : Int32), vi k1] [(.ref a1)])) rfl rfl (hb hby d6_60)
          have go131 : Go p e below s₁ F0 T130 (mkF m 63 #[vr a1, vr a2, vi (2 : Int32), vr a2, vi (3 : Int32), vi (1 : Int32), vi k1] [(.ref w)]) := fun t_ k_ => go129 t_ (st130 t_ k_)
          have go132 : Go p e below s₁ F0 T130 (mkF m 64 #[vr a1, vr a2, vi (2 : Int32), vr a2, vi (3 : Int32), vi (1 : Int32), vi k1] [(.int (2 : Int32)), (.ref w)]) := by
            intro t_ k_
            refine go131 t_ ?_
            refine o_iloadN X130 hx (hb hby d6_63) rfl ?_
            exact k_
          obtain ⟨cl133, Ar133, -, Sz133, Nn133, Hs133, -⟩ := id VL
          have hin133 : ¬ ((2 : Int32) < 0 ∨ cl133.slots.size ≤ ((2 : Int32)).toNatClampNeg) := inb_of Sz133 ⟨by decide, by decide⟩
          have hat133 : cl133.slots[((2 : Int32)).toNatClampNeg]? = some (.int l2) := Hs133.at hin133 rfl
          have go134 : Go p e below s₁ F0 T130 (mkF m 67 #[vr a1, vr a2, vi (2 : Int32), vr a2, vi (3 : Int32), vi (1 : Int32), vi k1] [(.int k1), (.int l2)]) := by
            intro t_ k_
            refine go132 t_ ?_
            refine o_iaload X130 hx hZ e130 Ar133 hin133 hat133 (hb hby d6_64) ?_
            refine o_iload X130 hx (hb hby d6_65) rfl ?_
            exact k_
          by_cases hc67_135 : l2 = k1
          · skip
            have go136 : Go p e below s₁ F0 T130 (mkF m 21 #[vr a1, vr a2, vi (2 : Int32), vr a2, vi (3 : Int32), vi (2 : Int32), vi k1] [(.int (2 : Int32)), (.ref a2)]) := by
              intro t_ k_
              refine go134 t_ ?_
              refine o_icmpYes X130 hx (hb hby d6_67) (pc' := 72) rfl (by decide) (teq hc67_135).1 ?_
              refine o_iinc X130 hx (hb hby d6_72) rfl (L' := #[vr a1, vr a2, vi (2 : Int32), vr a2, vi (3 : Int32), vi (2 : Int32), vi k1]) rfl ?_
              refine o_goto X130 hx (hb hby d6_75) (pc' := 11) rfl (by decide) ?_
              refine o_iload X130 hx (hb hby d6_11) rfl ?_
              refine o_iload X130 hx (hb hby d6_13) rfl ?_
              refine o_icmpNo X130 hx (hb hby d6_15) (tlt (by decide : (2 : Int32) < (3 : Int32))).2.1 ?_
              refine o_aloadN X130 hx (hb hby d6_18) rfl rfl ?_
              refine o_iload X130 hx (hb hby d6_19) rfl ?_
              exact k_
            obtain ⟨cl137, Ar137, -, Sz137, Nn137, Hs137, -⟩ := id VN
            have hin137 : ¬ ((2 : Int32) < 0 ∨ cl137.slots.size ≤ ((2 : Int32)).toNatClampNeg) := inb_of Sz137 ⟨by decide, by decide⟩
            have hat137 : cl137.slots[((2 : Int32)).toNatClampNeg]? = some (.int k2) := Hs137.at hin137 rfl
            have go138 : Go p e below s₁ F0 T130 (mkF m 26 #[vr a1, vr a2, vi (2 : Int32), vr a2, vi (3 : Int32), vi (2 : Int32), vi k2] [(.ref a1), (.int (2 : Int32))]) := by
              intro t_ k_
              refine go136 t_ ?_
              refine o_iaload X130 hx hZ e130 Ar137 hin137 hat137 (hb hby d6_21) ?_
              refine o_istore X130 hx (hb hby d6_22) (L' := #[vr a1, vr a2, vi (2 : Int32), vr a2, vi (3 : Int32), vi (2 : Int32), vi k2]) rfl ?_
              refine o_iloadN X130 hx (hb hby d6_24) rfl ?_
              refine o_aloadN X130 hx (hb hby d6_25) rfl rfl ?_
              exact k_
            obtain ⟨T139, X139, e139, st139⟩ := getF X130 hx hZ hown (host := "") (Or.inl (own_w hw 26 rfl)) Via.refl e130 Fl (g := (mkF m 26 #[vr a1, vr a2, vi (2 : Int32), vr a2, vi (3 : Int32), vi (2 : Int32), vi k2] [(.ref a1), (.int (2 : Int32))])) rfl rfl (hb hby d6_26)
            have go140 : Go p e below s₁ F0 T139 (mkF m 29 #[vr a1, vr a2, vi (2 : Int32), vr a2, vi (3 : Int32), vi (2 : Int32), vi k2] [(.ref w), (.int (2 : Int32))]) := fun t_ k_ => go138 t_ (st139 t_ k_)
            obtain ⟨cl141, Ar141, -, Sz141, Nn141, -, -⟩ := id VL
            have go142 : Go p e below s₁ F0 T139 (mkF m 34 #[vr a1, vr a2, vi (2 : Int32), vr a2, vi (3 : Int32), vi (2 : Int32), vi k2] [(.ref a1)]) := by
              intro t_ k_
              refine go140 t_ ?_
              refine o_len X139 hx hZ e139 Ar141 Sz141 Nn141 (hb hby d6_29) ?_
              refine o_icmpNo X139 hx (hb hby d6_30) (tlt (by decide : (2 : Int32) < (3 : Int32))).2.1 ?_
              refine o_aloadN X139 hx (hb hby d6_33) rfl rfl ?_
              exact k_
            obtain ⟨T143, X143, e143, st143⟩ := getF X139 hx hZ hown (host := "") (Or.inl (own_w hw 26 rfl)) Via.refl e139 Fl (g := (mkF m 34 #[vr a1, vr a2, vi (2 : Int32), vr a2, vi (3 : Int32), vi (2 : Int32), vi k2] [(.ref a1)])) rfl rfl (hb hby d6_34)
            have go144 : Go p e below s₁ F0 T143 (mkF m 37 #[vr a1, vr a2, vi (2 : Int32), vr a2, vi (3 : Int32), vi (2 : Int32), vi k2] [(.ref w)]) := fun t_ k_ => go142 t_ (st143 t_ k_)
            have go145 : Go p e below s₁ F0 T143 (mkF m 38 #[vr a1, vr a2, vi (2 : Int32), vr a2, vi (3 : Int32), vi (2 : Int32), vi k2] [(.int (2 : Int32)), (.ref w)]) := by
              intro t_ k_
              refine go144 t_ ?_
              refine o_iloadN X143 hx (hb hby d6_37) rfl ?_
              exact k_
            obtain ⟨cl146, Ar146, -, Sz146, Nn146, Hs146, -⟩ := id VL
            have hin146 : ¬ ((2 : Int32) < 0 ∨ cl146.slots.size ≤ ((2 : Int32)).toNatClampNeg) := inb_of Sz146 ⟨by decide, by decide⟩
            have hat146 : cl146.slots[((2 : Int32)).toNatClampNeg]? = some (.int l2) := Hs146.at hin146 rfl
            have go148 : Go p e below s₁ F0 T143 (mkF m 41 #[vr a1, vr a2, vi (2 : Int32), vr a2, vi (3 : Int32), vi (2 : Int32), vi k2] [(.int k2), (.int l2)]) := by
              intro t_ k_
              refine go145 t_ ?_
              refine o_iaload X143 hx hZ e143 Ar146 hin146 hat146 (hb hby d6_38) ?_
              refine o_iload X143 hx (hb hby d6_39) rfl ?_
              exact k_
            have hd147 : l2 < k2 := (by rw [hc67_135]; exact s1)
            have go149 : Go p e below s₁ F0 T143 (mkF m 26 #[vr a1, vr a2, vi (3 : Int32), vr a2, vi (3 : Int32), vi (2 : Int32), vi k2] [(.ref a1), (.int (3 : Int32))]) := by
              intro t_ k_
              refine go148 t_ ?_
              refine o_icmpNo X143 hx (hb hby d6_41) (tlt hd147).2.1 ?_
              refine o_iinc X143 hx (hb hby d6_44) rfl (L' := #[vr a1, vr a2, vi (3 : Int32), vr a2, vi (3 : Int32), vi (2 : Int32), vi k2]) rfl ?_
              refine o_goto X143 hx (hb hby d6_47) (pc' := 24) rfl (by decide) ?_
              refine o_iloadN X143 hx (hb hby d6_24) rfl ?_
              refine o_aloadN X143 hx (hb hby d6_25) rfl rfl ?_
              exact k_
            obtain ⟨T150, X150, e150, st150⟩ := getF X143 hx hZ hown (host := "") (Or.inl (own_w hw 26 rfl)) Via.refl e143 Fl (g := (mkF m 26 #[vr a1, vr a2, vi (3 : Int32), vr a2, vi (3 : Int32), vi (2 : Int32), vi k2] [(.ref a1), (.int (3 : Int32))])) rfl rfl (hb hby d6_26)
            have go151 : Go p e below s₁ F0 T150 (mkF m 29 #[vr a1, vr a2, vi (3 : Int32), vr a2, vi (3 : Int32), vi (2 : Int32), vi k2] [(.ref w), (.int (3 : Int32))]) := fun t_ k_ => go149 t_ (st150 t_ k_)
            obtain ⟨cl152, Ar152, -, Sz152, Nn152, -, -⟩ := id VL
            have go153 : Go p e below s₁ F0 T150 (mkF m 52 #[vr a1, vr a2, vi (3 : Int32), vr a2, vi (3 : Int32), vi (2 : Int32), vi k2] [(.ref a1), (.int (3 : Int32))]) := by
              intro t_ k_
              refine go151 t_ ?_
              refine o_len X150 hx hZ e150 Ar152 Sz152 Nn152 (hb hby d6_29) ?_
              refine o_icmpYes X150 hx (hb hby d6_30) (pc' := 50) rfl (by decide) (flt (by decide : ¬ ((3 : Int32) < (3 : Int32)))).2.1 ?_
              refine o_iloadN X150 hx (hb hby d6_50) rfl ?_
              refine o_aloadN X150 hx (hb hby d6_51) rfl rfl ?_
              exact k_
            obtain ⟨T154, X154, e154, st154⟩ := getF X150 hx hZ hown (host := "") (Or.inl (own_w hw 26 rfl)) Via.refl e150 Fl (g := (mkF m 52 #[vr a1, vr a2, vi (3 : Int32), vr a2, vi (3 : Int32), vi (2 : Int32), vi k2] [(.ref a1), (.int (3 : Int32))])) rfl rfl (hb hby d6_52)
            have go155 : Go p e below s₁ F0 T154 (mkF m 55 #[vr a1, vr a2, vi (3 : Int32), vr a2, vi (3 : Int32), vi (2 : Int32), vi k2] [(.ref w), (.int (3 : Int32))]) := fun t_ k_ => go153 t_ (st154 t_ k_)
            obtain ⟨cl156, Ar156, -, Sz156, Nn156, -, -⟩ := id VL
            have go157 : Go p e below s₁ F0 T154 (mkF m 71 #[vr a1, vr a2, vi (3 : Int32), vr a2, vi (3 : Int32), vi (2 : Int32), vi k2] [(.int (0 : Int32))]) := by
              intro t_ k_
              refine go155 t_ ?_
              refine o_len X154 hx hZ e154 Ar156 Sz156 Nn156 (hb hby d6_55) ?_
              refine o_icmpYes X154 hx (hb hby d6_56) (pc' := 70) rfl (by decide) (teq (by decide : (3 : Int32) = (3 : Int32))).1 ?_
              refine o_iconst X154 hx (hb hby d6_70) (v := 0) rfl ?_
              exact k_
            obtain ⟨fs, hr, hrun, hended, hW, hsame⟩ := X154.leave (v := some (.int (0 : Int32))) (fun h => by rw [Bd.returns] at h; cases h)
            refine ⟨_, _, pre0 _ (go157 _ ?_), hrun, hended, _, _, rfl, ?_, ⟨_, rfl⟩, hW, hsame.mono (by decide) (by decide)⟩
            · skip
              exact retN X154 hx (t := .boolean) Bd.returns (by simp) (hb hby d6_71) hr
            · show Q6_3_3 Z a1 a2 w kw kn l0 l1 l2 k0 k1 k2 h0 n0 _ T154.heap _
              rw [e154]
              exact ⟨(congrArg (fun z => some (Value.int z)) (show (0 : Int32) = f6_3_3 l0 l1 l2 k0 k1 k2 from by unfold f6_3_3; rw [if_pos hc41_15, if_neg hc41_26, if_pos hc67_91, if_neg hc41_115, if_pos hc67_135])), N0, rfl⟩
          · skip
            have go158 : Go p e below s₁ F0 T130 (mkF m 71 #[vr a1, vr a2, vi (2 : Int32), vr a2, vi (3 : Int32), vi (1 : Int32), vi k1] [(.int (0 : Int32))]) := by
              intro t_ k_
              refine go134 t_ ?_
              refine o_icmpNo X130 hx (hb hby d6_67) (feq hc67_135).1 ?_
              refine o_iconst X130 hx (hb hby d6_70) (v := 0) rfl ?_
              exact k_
            obtain ⟨fs, hr, hrun, hended, hW, hsame⟩ := X130.leave (v := some (.int (0 : Int32))) (fun h => by rw [Bd.returns] at h; cases h)
            refine ⟨_, _, pre0 _ (go158 _ ?_), hrun, hended, _, _, rfl, ?_, ⟨_, rfl⟩, hW, hsame.mono (by decide) (by decide)⟩
            · skip
              exact retN X130 hx (t := .boolean) Bd.returns (by simp) (hb hby d6_71) hr
            · show Q6_3_3 Z a1 a2 w kw kn l0 l1 l2 k0 k1 k2 h0 n0 _ T130.heap _
              rw [e130]
              exact ⟨(congrArg (fun z => some (Value.int z)) (show (0 : Int32) = f6_3_3 l0 l1 l2 k0 k1 k2 from by unfold f6_3_3; rw [if_pos hc41_15, if_neg hc41_26, if_pos hc67_91, if_neg hc41_115, if_neg hc67_135])), N0, rfl⟩
      · skip
        have go159 : Go p e below s₁ F0 T86 (mkF m 71 #[vr a1, vr a2, vi (1 : Int32), vr a2, vi (3 : Int32), vi (0 : Int32), vi k0] [(.int (0 : Int32))]) := by
          intro t_ k_
          refine go90 t_ ?_
          refine o_icmpNo X86 hx (hb hby d6_67) (feq hc67_91).1 ?_
          refine o_iconst X86 hx (hb hby d6_70) (v := 0) rfl ?_
          exact k_
        obtain ⟨fs, hr, hrun, hended, hW, hsame⟩ := X86.leave (v := some (.int (0 : Int32))) (fun h => by rw [Bd.returns] at h; cases h)
        refine ⟨_, _, pre0 _ (go159 _ ?_), hrun, hended, _, _, rfl, ?_, ⟨_, rfl⟩, hW, hsame.mono (by decide) (by decide)⟩
        · skip
          exact retN X86 hx (t := .boolean) Bd.returns (by simp) (hb hby d6_71) hr
        · show Q6_3_3 Z a1 a2 w kw kn l0 l1 l2 k0 k1 k2 h0 n0 _ T86.heap _
          rw [e86]
          exact ⟨(congrArg (fun z => some (Value.int z)) (show (0 : Int32) = f6_3_3 l0 l1 l2 k0 k1 k2 from by unfold f6_3_3; rw [if_pos hc41_15, if_neg hc41_26, if_neg hc67_91])), N0, rfl⟩
  · skip
    have go160 : Go p e below s₁ F0 T10 (mkF m 52 #[vr a1, vr a2, vi (0 : Int32), vr a2, vi (3 : Int32), vi (0 : Int32), vi k0] [(.ref a1), (.int (0 : Int32))]) := by
      intro t_ k_
      refine go14 t_ ?_
      refine o_icmpYes X10 hx (hb hby d6_41) (pc' := 50) rfl (by decide) (flt hc41_15).2.1 ?_
      refine o_iloadN X10 hx (hb hby d6_50) rfl ?_
      refine o_aloadN X10 hx (hb hby d6_51) rfl rfl ?_
      exact k_
    obtain ⟨T161, X161, e161, st161⟩ := getF X10 hx hZ hown (host := "") (Or.inl (own_w hw 26 rfl)) Via.refl e10 Fl (g := (mkF m 52 #[vr a1, vr a2, vi (0 : Int32), vr a2, vi (3 : Int32), vi (0 : Int32), vi k0] [(.ref a1), (.int (0 : Int32))])) rfl rfl (hb hby d6_52)
    have go162 : Go p e below s₁ F0 T161 (mkF m 55 #[vr a1, vr a2, vi (0 : Int32), vr a2, vi (3 : Int32), vi (0 : Int32), vi k0] [(.ref w), (.int (0 : Int32))]) := fun t_ k_ => go160 t_ (st161 t_ k_)
    obtain ⟨cl163, Ar163, -, Sz163, Nn163, -, -⟩ := id VL
    have go164 : Go p e below s₁ F0 T161 (mkF m 60 #[vr a1, vr a2, vi (0 : Int32), vr a2, vi (3 : Int32), vi (0 : Int32), vi k0] [(.ref a1)]) := by
      intro t_ k_
      refine go162 t_ ?_
      refine o_len X161 hx hZ e161 Ar163 Sz163 Nn163 (hb hby d6_55) ?_
      refine o_icmpNo X161 hx (hb hby d6_56) (feq (by decide : ¬ ((0 : Int32) = (3 : Int32)))).1 ?_
      refine o_aloadN X161 hx (hb hby d6_59) rfl rfl ?_
      exact k_
    obtain ⟨T165, X165, e165, st165⟩ := getF X161 hx hZ hown (host := "") (Or.inl (own_w hw 26 rfl)) Via.refl e161 Fl (g := (mkF m 60 #[vr a1, vr a2, vi (0 : Int32), vr a2, vi (3 : Int32), vi (0 : Int32), vi k0] [(.ref a1)])) rfl rfl (hb hby d6_60)
    have go166 : Go p e below s₁ F0 T165 (mkF m 63 #[vr a1, vr a2, vi (0 : Int32), vr a2, vi (3 : Int32), vi (0 : Int32), vi k0] [(.ref w)]) := fun t_ k_ => go164 t_ (st165 t_ k_)
    have go167 : Go p e below s₁ F0 T165 (mkF m 64 #[vr a1, vr a2, vi (0 : Int32), vr a2, vi (3 : Int32), vi (0 : Int32), vi k0] [(.int (0 : Int32)), (.ref w)]) := by
      intro t_ k_
      refine go166 t_ ?_
      refine o_iloadN X165 hx (hb hby d6_63) rfl ?_
      exact k_
    obtain ⟨cl168, Ar168, -, Sz168, Nn168, Hs168, -⟩ := id VL
    have hin168 : ¬ ((0 : Int32) < 0 ∨ cl168.slots.size ≤ ((0 : Int32)).toNatClampNeg) := inb_of Sz168 ⟨by decide, by decide⟩
    have hat168 : cl168.slots[((0 : Int32)).toNatClampNeg]? = some (.int l0) := Hs168.at hin168 rfl
    have go169 : Go p e below s₁ F0 T165 (mkF m 67 #[vr a1, vr a2, vi (0 : Int32), vr a2, vi (3 : Int32), vi (0 : Int32), vi k0] [(.int k0), (.int l0)]) := by
      intro t_ k_
      refine go167 t_ ?_
      refine o_iaload X165 hx hZ e165 Ar168 hin168 hat168 (hb hby d6_64) ?_
      refine o_iload X165 hx (hb hby d6_65) rfl ?_
      exact k_
    by_cases hc67_170 : l0 = k0
    · skip
      have go171 : Go p e below s₁ F0 T165 (mkF m 21 #[vr a1, vr a2, vi (0 : Int32), vr a2, vi (3 : Int32), vi (1 : Int32), vi k0] [(.int (1 : Int32)), (.ref a2)]) := by
        intro t_ k_
        refine go169 t_ ?_
        refine o_icmpYes X165 hx (hb hby d6_67) (pc' := 72) rfl (by decide) (teq hc67_170).1 ?_
        refine o_iinc X165 hx (hb hby d6_72) rfl (L' := #[vr a1, vr a2, vi (0 : Int32), vr a2, vi (3 : Int32), vi (1 : Int32), vi k0]) rfl ?_
        refine o_goto X165 hx (hb hby d6_75) (pc' := 11) rfl (by decide) ?_
        refine o_iload X165 hx (hb hby d6_11) rfl ?_
        refine o_iload X165 hx (hb hby d6_13) rfl ?_
        refine o_icmpNo X165 hx (hb hby d6_15) (tlt (by decide : (1 : Int32) < (3 : Int32))).2.1 ?_
        refine o_aloadN X165 hx (hb hby d6_18) rfl rfl ?_
        refine o_iload X165 hx (hb hby d6_19) rfl ?_
        exact k_
      obtain ⟨cl172, Ar172, -, Sz172, Nn172, Hs172, -⟩ := id VN
      have hin172 : ¬ ((1 : Int32) < 0 ∨ cl172.slots.size ≤ ((1 : Int32)).toNatClampNeg) := inb_of Sz172 ⟨by decide, by decide⟩
      have hat172 : cl172.slots[((1 : Int32)).toNatClampNeg]? = some (.int k1) := Hs172.at hin172 rfl
      have go173 : Go p e below s₁ F0 T165 (mkF m 26 #[vr a1, vr a2, vi (0 : Int32), vr a2, vi (3 : Int32), vi (1 : Int32), vi k1] [(.ref a1), (.int (0 : Int32))]) := by
        intro t_ k_
        refine go171 t_ ?_
        refine o_iaload X165 hx hZ e165 Ar172 hin172 hat172 (hb hby d6_21) ?_
        refine o_istore X165 hx (hb hby d6_22) (L' := #[vr a1, vr a2, vi (0 : Int32), vr a2, vi (3 : Int32), vi (1 : Int32), vi k1]) rfl ?_
        refine o_iloadN X165 hx (hb hby d6_24) rfl ?_
        refine o_aloadN X165 hx (hb hby d6_25) rfl rfl ?_
        exact k_
      obtain ⟨T174, X174, e174, st174⟩ := getF X165 hx hZ hown (host := "") (Or.inl (own_w hw 26 rfl)) Via.refl e165 Fl (g := (mkF m 26 #[vr a1, vr a2, vi (0 : Int32), vr a2, vi (3 : Int32), vi (1 : Int32), vi k1] [(.ref a1), (.int (0 : Int32))])) rfl rfl (hb hby d6_26)
      have go175 : Go p e below s₁ F0 T174 (mkF m 29 #[vr a1, vr a2, vi (0 : Int32), vr a2, vi (3 : Int32), vi (1 : Int32), vi k1] [(.ref w), (.int (0 : Int32))]) := fun t_ k_ => go173 t_ (st174 t_ k_)
      obtain ⟨cl176, Ar176, -, Sz176, Nn176, -, -⟩ := id VL
      have go177 : Go p e below s₁ F0 T174 (mkF m 34 #[vr a1, vr a2, vi (0 : Int32), vr a2, vi (3 : Int32), vi (1 : Int32), vi k1] [(.ref a1)]) := by
        intro t_ k_
        refine go175 t_ ?_
        refine o_len X174 hx hZ e174 Ar176 Sz176 Nn176 (hb hby d6_29) ?_
        refine o_icmpNo X174 hx (hb hby d6_30) (tlt (by decide : (0 : Int32) < (3 : Int32))).2.1 ?_
        refine o_aloadN X174 hx (hb hby d6_33) rfl rfl ?_
        exact k_
      obtain ⟨T178, X178, e178, st178⟩ := getF X174 hx hZ hown (host := "") (Or.inl (own_w hw 26 rfl)) Via.refl e174 Fl (g := (mkF m 34 #[vr a1, vr a2, vi (0 : Int32), vr a2, vi (3 : Int32), vi (1 : Int32), vi k1] [(.ref a1)])) rfl rfl (hb hby d6_34)
      have go179 : Go p e below s₁ F0 T178 (mkF m 37 #[vr a1, vr a2, vi (0 : Int32), vr a2, vi (3 : Int32), vi (1 : Int32), vi k1] [(.ref w)]) := fun t_ k_ => go177 t_ (st178 t_ k_)
      have go180 : Go p e below s₁ F0 T178 (mkF m 38 #[vr a1, vr a2, vi (0 : Int32), vr a2, vi (3 : Int32), vi (1 : Int32), vi k1] [(.int (0 : Int32)), (.ref w)]) := by
        intro t_ k_
        refine go179 t_ ?_
        refine o_iloadN X178 hx (hb hby d6_37) rfl ?_
        exact k_
      obtain ⟨cl181, Ar181, -, Sz181, Nn181, Hs181, -⟩ := id VL
      have hin181 : ¬ ((0 : Int32) < 0 ∨ cl181.slots.size ≤ ((0 : Int32)).toNatClampNeg) := inb_of Sz181 ⟨by decide, by decide⟩
      have hat181 : cl181.slots[((0 : Int32)).toNatClampNeg]? = some (.int l0) := Hs181.at hin181 rfl
      have go183 : Go p e below s₁ F0 T178 (mkF m 41 #[vr a1, vr a2, vi (0 : Int32), vr a2, vi (3 : Int32), vi (1 : Int32), vi k1] [(.int k1), (.int l0)]) := by
        intro t_ k_
        refine go180 t_ ?_
        refine o_iaload X178 hx hZ e178 Ar181 hin181 hat181 (hb hby d6_38) ?_
        refine o_iload X178 hx (hb hby d6_39) rfl ?_
        exact k_
      have hd182 : l0 < k1 := (by rw [hc67_170]; exact s0)
      have go184 : Go p e below s₁ F0 T178 (mkF m 26 #[vr a1, vr a2, vi (1 : Int32), vr a2, vi (3 : Int32), vi (1 : Int32), vi k1] [(.ref a1), (.int (1 : Int32))]) := by
        intro t_ k_
        refine go183 t_ ?_
        refine o_icmpNo X178 hx (hb hby d6_41) (tlt hd182).2.1 ?_
        refine o_iinc X178 hx (hb hby d6_44) rfl (L' := #[vr a1, vr a2, vi (1 : Int32), vr a2, vi (3 : Int32), vi (1 : Int32), vi k1]) rfl ?_
        refine o_goto X178 hx (hb hby d6_47) (pc' := 24) rfl (by decide) ?_
        refine o_iloadN X178 hx (hb hby d6_24) rfl ?_
        refine o_aloadN X178 hx (hb hby d6_25) rfl rfl ?_
        exact k_
      obtain ⟨T185, X185, e185, st185⟩ := getF X178 hx hZ hown (host := "") (Or.inl (own_w hw 26 rfl)) Via.refl e178 Fl (g := (mkF m 26 #[vr a1, vr a2, vi (1 : Int32), vr a2, vi (3 : Int32), vi (1 : Int32), vi k1] [(.ref a1), (.int (1 : Int32))])) rfl rfl (hb hby d6_26)
      have go186 : Go p e below s₁ F0 T185 (mkF m 29 #[vr a1, vr a2, vi (1 : Int32), vr a2, vi (3 : Int32), vi (1 : Int32), vi k1] [(.ref w), (.int (1 : Int32))]) := fun t_ k_ => go184 t_ (st185 t_ k_)
      obtain ⟨cl187, Ar187, -, Sz187, Nn187, -, -⟩ := id VL
      have go188 : Go p e below s₁ F0 T185 (mkF m 34 #[vr a1, vr a2, vi (1 : Int32), vr a2, vi (3 : Int32), vi (1 : Int32), vi k1] [(.ref a1)]) := by
        intro t_ k_
        refine go186 t_ ?_
        refine o_len X185 hx hZ e185 Ar187 Sz187 Nn187 (hb hby d6_29) ?_
        refine o_icmpNo X185 hx (hb hby d6_30) (tlt (by decide : (1 : Int32) < (3 : Int32))).2.1 ?_
        refine o_aloadN X185 hx (hb hby d6_33) rfl rfl ?_
        exact k_
      obtain ⟨T189, X189, e189, st189⟩ := getF X185 hx hZ hown (host := "") (Or.inl (own_w hw 26 rfl)) Via.refl e185 Fl (g := (mkF m 34 #[vr a1, vr a2, vi (1 : Int32), vr a2, vi (3 : Int32), vi (1 : Int32), vi k1] [(.ref a1)])) rfl rfl (hb hby d6_34)
      have go190 : Go p e below s₁ F0 T189 (mkF m 37 #[vr a1, vr a2, vi (1 : Int32), vr a2, vi (3 : Int32), vi (1 : Int32), vi k1] [(.ref w)]) := fun t_ k_ => go188 t_ (st189 t_ k_)
      have go191 : Go p e below s₁ F0 T189 (mkF m 38 #[vr a1, vr a2, vi (1 : Int32), vr a2, vi (3 : Int32), vi (1 : Int32), vi k1] [(.int (1 : Int32)), (.ref w)]) := by
        intro t_ k_
        refine go190 t_ ?_
        refine o_iloadN X189 hx (hb hby d6_37) rfl ?_
        exact k_
      obtain ⟨cl192, Ar192, -, Sz192, Nn192, Hs192, -⟩ := id VL
      have hin192 : ¬ ((1 : Int32) < 0 ∨ cl192.slots.size ≤ ((1 : Int32)).toNatClampNeg) := inb_of Sz192 ⟨by decide, by decide⟩
      have hat192 : cl192.slots[((1 : Int32)).toNatClampNeg]? = some (.int l1) := Hs192.at hin192 rfl
      have go193 : Go p e below s₁ F0 T189 (mkF m 41 #[vr a1, vr a2, vi (1 : Int32), vr a2, vi (3 : Int32), vi (1 : Int32), vi k1] [(.int k1), (.int l1)]) := by
        intro t_ k_
        refine go191 t_ ?_
        refine o_iaload X189 hx hZ e189 Ar192 hin192 hat192 (hb hby d6_38) ?_
        refine o_iload X189 hx (hb hby d6_39) rfl ?_
        exact k_
      by_cases hc41_194 : l1 < k1
      · skip
        have go195 : Go p e below s₁ F0 T189 (mkF m 26 #[vr a1, vr a2, vi (2 : Int32), vr a2, vi (3 : Int32), vi (1 : Int32), vi k1] [(.ref a1), (.int (2 : Int32))]) := by
          intro t_ k_
          refine go193 t_ ?_
          refine o_icmpNo X189 hx (hb hby d6_41) (tlt hc41_194).2.1 ?_
          refine o_iinc X189 hx (hb hby d6_44) rfl (L' := #[vr a1, vr a2, vi (2 : Int32), vr a2, vi (3 : Int32), vi (1 : Int32), vi k1]) rfl ?_
          refine o_goto X189 hx (hb hby d6_47) (pc' := 24) rfl (by decide) ?_
          refine o_iloadN X189 hx (hb hby d6_24) rfl ?_
          refine o_aloadN X189 hx (hb hby d6_25) rfl rfl ?_
          exact k_
        obtain ⟨T196, X196, e196, st196⟩ := getF X189 hx hZ hown (host := "") (Or.inl (own_w hw 26 rfl)) Via.refl e189 Fl (g := (mkF m 26 #[vr a1, vr a2, vi (2 : Int32), vr a2, vi (3 : Int32), vi (1 : Int32), vi k1] [(.ref a1), (.int (2 : Int32))])) rfl rfl (hb hby d6_26)
        have go197 : Go p e below s₁ F0 T196 (mkF m 29 #[vr a1, vr a2, vi (2 : Int32), vr a2, vi (3 : Int32), vi (1 : Int32), vi k1] [(.ref w), (.int (2 : Int32))]) := fun t_ k_ => go195 t_ (st196 t_ k_)
        obtain ⟨cl198, Ar198, -, Sz198, Nn198, -, -⟩ := id VL
        have go199 : Go p e below s₁ F0 T196 (mkF m 34 #[vr a1, vr a2, vi (2 : Int32), vr a2, vi (3 : Int32), vi (1 : Int32), vi k1] [(.ref a1)]) := by
          intro t_ k_
          refine go197 t_ ?_
          refine o_len X196 hx hZ e196 Ar198 Sz198 Nn198 (hb hby d6_29) ?_
          refine o_icmpNo X196 hx (hb hby d6_30) (tlt (by decide : (2 : Int32) < (3 : Int32))).2.1 ?_
          refine o_aloadN X196 hx (hb hby d6_33) rfl rfl ?_
          exact k_
        obtain ⟨T200, X200, e200, st200⟩ := getF X196 hx hZ hown (host := "") (Or.inl (own_w hw 26 rfl)) Via.refl e196 Fl (g := (mkF m 34 #[vr a1, vr a2, vi (2 : Int32), vr a2, vi (3 : Int32), vi (1 : Int32), vi k1] [(.ref a1)])) rfl rfl (hb hby d6_34)
        have go201 : Go p e below s₁ F0 T200 (mkF m 37 #[vr a1, vr a2, vi (2 : Int32), vr a2, vi (3 : Int32), vi (1 : Int32), vi k1] [(.ref w)]) := fun t_ k_ => go199 t_ (st200 t_ k_)
        have go202 : Go p e below s₁ F0 T200 (mkF m 38 #[vr a1, vr a2, vi (2 : Int32), vr a2, vi (3 : Int32), vi (1 : Int32), vi k1] [(.int (2 : Int32)), (.ref w)]) := by
          intro t_ k_
          refine go201 t_ ?_
          refine o_iloadN X200 hx (hb hby d6_37) rfl ?_
          exact k_
        obtain ⟨cl203, Ar203, -, Sz203, Nn203, Hs203, -⟩ := id VL
        have hin203 : ¬ ((2 : Int32) < 0 ∨ cl203.slots.size ≤ ((2 : Int32)).toNatClampNeg) := inb_of Sz203 ⟨by decide, by decide⟩
        have hat203 : cl203.slots[((2 : Int32)).toNatClampNeg]? = some (.int l2) := Hs203.at hin203 rfl
        have go204 : Go p e below s₁ F0 T200 (mkF m 41 #[vr a1, vr a2, vi (2 : Int32), vr a2, vi (3 : Int32), vi (1 : Int32), vi k1] [(.int k1), (.int l2)]) := by
          intro t_ k_
          refine go202 t_ ?_
          refine o_iaload X200 hx hZ e200 Ar203 hin203 hat203 (hb hby d6_38) ?_
          refine o_iload X200 hx (hb hby d6_39) rfl ?_
          exact k_
        by_cases hc41_205 : l2 < k1
        · skip
          have go206 : Go p e below s₁ F0 T200 (mkF m 26 #[vr a1, vr a2, vi (3 : Int32), vr a2, vi (3 : Int32), vi (1 : Int32), vi k1] [(.ref a1), (.int (3 : Int32))]) := by
            intro t_ k_
            refine go204 t_ ?_
            refine o_icmpNo X200 hx (hb hby d6_41) (tlt hc41_205).2.1 ?_
            refine o_iinc X200 hx (hb hby d6_44) rfl (L' := #[vr a1, vr a2, vi (3 : Int32), vr a2, vi (3 : Int32), vi (1 : Int32), vi k1]) rfl ?_
            refine o_goto X200 hx (hb hby d6_47) (pc' := 24) rfl (by decide) ?_
            refine o_iloadN X200 hx (hb hby d6_24) rfl ?_
            refine o_aloadN X200 hx (hb hby d6_25) rfl rfl ?_
            exact k_
          obtain ⟨T207, X207, e207, st207⟩ := getF X200 hx hZ hown (host := "") (Or.inl (own_w hw 26 rfl)) Via.refl e200 Fl (g := (mkF m 26 #[vr a1, vr a2, vi (3 : Int32), vr a2, vi (3 : Int32), vi (1 : Int32), vi k1] [(.ref a1), (.int (3 : Int32))])) rfl rfl (hb hby d6_26)
          have go208 : Go p e below s₁ F0 T207 (mkF m 29 #[vr a1, vr a2, vi (3 : Int32), vr a2, vi (3 : Int32), vi (1 : Int32), vi k1] [(.ref w), (.int (3 : Int32))]) := fun t_ k_ => go206 t_ (st207 t_ k_)
          obtain ⟨cl209, Ar209, -, Sz209, Nn209, -, -⟩ := id VL
          have go210 : Go p e below s₁ F0 T207 (mkF m 52 #[vr a1, vr a2, vi (3 : Int32), vr a2, vi (3 : Int32), vi (1 : Int32), vi k1] [(.ref a1), (.int (3 : Int32))]) := by
            intro t_ k_
            refine go208 t_ ?_
            refine o_len X207 hx hZ e207 Ar209 Sz209 Nn209 (hb hby d6_29) ?_
            refine o_icmpYes X207 hx (hb hby d6_30) (pc' := 50) rfl (by decide) (flt (by decide : ¬ ((3 : Int32) < (3 : Int32)))).2.1 ?_
            refine o_iloadN X207 hx (hb hby d6_50) rfl ?_
            refine o_aloadN X207 hx (hb hby d6_51) rfl rfl ?_
            exact k_
          obtain ⟨T211, X211, e211, st211⟩ := getF X207 hx hZ hown (host := "") (Or.inl (own_w hw 26 rfl)) Via.refl e207 Fl (g := (mkF m 52 #[vr a1, vr a2, vi (3 : Int32), vr a2, vi (3 : Int32), vi (1 : Int32), vi k1] [(.ref a1), (.int (3 : Int32))])) rfl rfl (hb hby d6_52)
          have go212 : Go p e below s₁ F0 T211 (mkF m 55 #[vr a1, vr a2, vi (3 : Int32), vr a2, vi (3 : Int32), vi (1 : Int32), vi k1] [(.ref w), (.int (3 : Int32))]) := fun t_ k_ => go210 t_ (st211 t_ k_)
          obtain ⟨cl213, Ar213, -, Sz213, Nn213, -, -⟩ := id VL
          have go214 : Go p e below s₁ F0 T211 (mkF m 71 #[vr a1, vr a2, vi (3 : Int32), vr a2, vi (3 : Int32), vi (1 : Int32), vi k1] [(.int (0 : Int32))]) := by
            intro t_ k_
            refine go212 t_ ?_
            refine o_len X211 hx hZ e211 Ar213 Sz213 Nn213 (hb hby d6_55) ?_
            refine o_icmpYes X211 hx (hb hby d6_56) (pc' := 70) rfl (by decide) (teq (by decide : (3 : Int32) = (3 : Int32))).1 ?_
            refine o_iconst X211 hx (hb hby d6_70) (v := 0) rfl ?_
            exact k_
          obtain ⟨fs, hr, hrun, hended, hW, hsame⟩ := X211.leave (v := some (.int (0 : Int32))) (fun h => by rw [Bd.returns] at h; cases h)
          refine ⟨_, _, pre0 _ (go214 _ ?_), hrun, hended, _, _, rfl, ?_, ⟨_, rfl⟩, hW, hsame.mono (by decide) (by decide)⟩
          · skip
            exact retN X211 hx (t := .boolean) Bd.returns (by simp) (hb hby d6_71) hr
          · show Q6_3_3 Z a1 a2 w kw kn l0 l1 l2 k0 k1 k2 h0 n0 _ T211.heap _
            rw [e211]
            exact ⟨(congrArg (fun z => some (Value.int z)) (show (0 : Int32) = f6_3_3 l0 l1 l2 k0 k1 k2 from by unfold f6_3_3; rw [if_neg hc41_15, if_pos hc67_170, if_pos hc41_194, if_pos hc41_205])), N0, rfl⟩
        · skip
          have go215 : Go p e below s₁ F0 T200 (mkF m 52 #[vr a1, vr a2, vi (2 : Int32), vr a2, vi (3 : Int32), vi (1 : Int32), vi k1] [(.ref a1), (.int (2 : Int32))]) := by
            intro t_ k_
            refine go204 t_ ?_
            refine o_icmpYes X200 hx (hb hby d6_41) (pc' := 50) rfl (by decide) (flt hc41_205).2.1 ?_
            refine o_iloadN X200 hx (hb hby d6_50) rfl ?_
            refine o_aloadN X200 hx (hb hby d6_51) rfl rfl ?_
            exact k_
          obtain ⟨T216, X216, e216, st216⟩ := getF X200 hx hZ hown (host := "") (Or.inl (own_w hw 26 rfl)) Via.refl e200 Fl (g := (mkF m 52 #[vr a1, vr a2, vi (2 : Int32), vr a2, vi (3 : Int32), vi (1 : Int32), vi k1] [(.ref a1), (.int (2 : Int32))])) rfl rfl (hb hby d6_52)
          have go217 : Go p e below s₁ F0 T216 (mkF m 55 #[vr a1, vr a2, vi (2 : Int32), vr a2, vi (3 : Int32), vi (1 : Int32), vi k1] [(.ref w), (.int (2 : Int32))]) := fun t_ k_ => go215 t_ (st216 t_ k_)
          obtain ⟨cl218, Ar218, -, Sz218, Nn218, -, -⟩ := id VL
          have go219 : Go p e below s₁ F0 T216 (mkF m 60 #[vr a1, vr a2, vi (2 : Int32), vr a2, vi (3 : Int32), vi (1 : Int32), vi k1] [(.ref a1)]) := by
            intro t_ k_
            refine go217 t_ ?_
            refine o_len X216 hx hZ e216 Ar218 Sz218 Nn218 (hb hby d6_55) ?_
            refine o_icmpNo X216 hx (hb hby d6_56) (feq (by decide : ¬ ((2 : Int32) = (3 : Int32)))).1 ?_
            refine o_aloadN X216 hx (hb hby d6_59) rfl rfl ?_
            exact k_
          obtain ⟨T220, X220, e220, st220⟩ := getF X216 hx hZ hown (host := "") (Or.inl (own_w hw 26 rfl)) Via.refl e216 Fl (g := (mkF m 60 #[vr a1, vr a2, vi (2 : Int32), vr a2, vi (3 : Int32), vi (1 : Int32), vi k1] [(.ref a1)])) rfl rfl (hb hby d6_60)
          have go221 : Go p e below s₁ F0 T220 (mkF m 63 #[vr a1, vr a2, vi (2 : Int32), vr a2, vi (3 : Int32), vi (1 : Int32), vi k1] [(.ref w)]) := fun t_ k_ => go219 t_ (st220 t_ k_)
          have go222 : Go p e below s₁ F0 T220 (mkF m 64 #[vr a1, vr a2, vi (2 : Int32), vr a2, vi (3 : Int32), vi (1 : Int32), vi k1] [(.int (2 : Int32)), (.ref w)]) := by
            intro t_ k_
            refine go221 t_ ?_
            refine o_iloadN X220 hx (hb hby d6_63) rfl ?_
            exact k_
          obtain ⟨cl223, Ar223, -, Sz223, Nn223, Hs223, -⟩ := id VL
          have hin223 : ¬ ((2 : Int32) < 0 ∨ cl223.slots.size ≤ ((2 : Int32)).toNatClampNeg) := inb_of Sz223 ⟨by decide, by decide⟩
          have hat223 : cl223.slots[((2 : Int32)).toNatClampNeg]? = some (.int l2) := Hs223.at hin223 rfl
          have go224 : Go p e below s₁ F0 T220 (mkF m 67 #[vr a1, vr a2, vi (2 : Int32), vr a2, vi (3 : Int32), vi (1 : Int32), vi k1] [(.int k1), (.int l2)]) := by
            intro t_ k_
            refine go222 t_ ?_
            refine o_iaload X220 hx hZ e220 Ar223 hin223 hat223 (hb hby d6_64) ?_
            refine o_iload X220 hx (hb hby d6_65) rfl ?_
            exact k_
          by_cases hc67_225 : l2 = k1
          · skip
            have go226 : Go p e below s₁ F0 T220 (mkF m 21 #[vr a1, vr a2, vi (2 : Int32), vr a2, vi (3 : Int32), vi (2 : Int32), vi k1] [(.int (2 : Int32)), (.ref a2)]) := by
              intro t_ k_
              refine go224 t_ ?_
              refine o_icmpYes X220 hx (hb hby d6_67) (pc' := 72) rfl (by decide) (teq hc67_225).1 ?_
              refine o_iinc X220 hx (hb hby d6_72) rfl (L' := #[vr a1, vr a2, vi (2 : Int32), vr a2, vi (3 : Int32), vi (2 : Int32), vi k1]) rfl ?_
              refine o_goto X220 hx (hb hby d6_75) (pc' := 11) rfl (by decide) ?_
              refine o_iload X220 hx (hb hby d6_11) rfl ?_
              refine o_iload X220 hx (hb hby d6_13) rfl ?_
              refine o_icmpNo X220 hx (hb hby d6_15) (tlt (by decide : (2 : Int32) < (3 : Int32))).2.1 ?_
              refine o_aloadN X220 hx (hb hby d6_18) rfl rfl ?_
              refine o_iload X220 hx (hb hby d6_19) rfl ?_
              exact k_
            obtain ⟨cl227, Ar227, -, Sz227, Nn227, Hs227, -⟩ := id VN
            have hin227 : ¬ ((2 : Int32) < 0 ∨ cl227.slots.size ≤ ((2 : Int32)).toNatClampNeg) := inb_of Sz227 ⟨by decide, by decide⟩
            have hat227 : cl227.slots[((2 : Int32)).toNatClampNeg]? = some (.int k2) := Hs227.at hin227 rfl
            have go228 : Go p e below s₁ F0 T220 (mkF m 26 #[vr a1, vr a2, vi (2 : Int32), vr a2, vi (3 : Int32), vi (2 : Int32), vi k2] [(.ref a1), (.int (2 : Int32))]) := by
              intro t_ k_
              refine go226 t_ ?_
              refine o_iaload X220 hx hZ e220 Ar227 hin227 hat227 (hb hby d6_21) ?_
              refine o_istore X220 hx (hb hby d6_22) (L' := #[vr a1, vr a2, vi (2 : Int32), vr a2, vi (3 : Int32), vi (2 : Int32), vi k2]) rfl ?_
              refine o_iloadN X220 hx (hb hby d6_24) rfl ?_
              refine o_aloadN X220 hx (hb hby d6_25) rfl rfl ?_
              exact k_
            obtain ⟨T229, X229, e229, st229⟩ := getF X220 hx hZ hown (host := "") (Or.inl (own_w hw 26 rfl)) Via.refl e220 Fl (g := (mkF m 26 #[vr a1, vr a2, vi (2 : Int32), vr a2, vi (3 : Int32), vi (2 : Int32), vi k2] [(.ref a1), (.int (2 : Int32))])) rfl rfl (hb hby d6_26)
            have go230 : Go p e below s₁ F0 T229 (mkF m 29 #[vr a1, vr a2, vi (2 : Int32), vr a2, vi (3 : Int32), vi (2 : Int32), vi k2] [(.ref w), (.int (2 : Int32))]) := fun t_ k_ => go228 t_ (st229 t_ k_)
            obtain ⟨cl231, Ar231, -, Sz231, Nn231, -, -⟩ := id VL
            have go232 : Go p e below s₁ F0 T229 (mkF m 34 #[vr a1, vr a2, vi (2 : Int32), vr a2, vi (3 : Int32), vi (2 : Int32), vi k2] [(.ref a1)]) := by
              intro t_ k_
              refine go230 t_ ?_
              refine o_len X229 hx hZ e229 Ar231 Sz231 Nn231 (hb hby d6_29) ?_
              refine o_icmpNo X229 hx (hb hby d6_30) (tlt (by decide : (2 : Int32) < (3 : Int32))).2.1 ?_
              refine o_aloadN X229 hx (hb hby d6_33) rfl rfl ?_
              exact k_
            obtain ⟨T233, X233, e233, st233⟩ := getF X229 hx hZ hown (host := "") (Or.inl (own_w hw 26 rfl)) Via.refl e229 Fl (g := (mkF m 34 #[vr a1, vr a2, vi (2 : Int32), vr a2, vi (3 : Int32), vi (2 : Int32), vi k2] [(.ref a1)])) rfl rfl (hb hby d6_34)
            have go234 : Go p e below s₁ F0 T233 (mkF m 37 #[vr a1, vr a2, vi (2 : Int32), vr a2, vi (3 : Int32), vi (2 : Int32), vi k2] [(.ref w)]) := fun t_ k_ => go232 t_ (st233 t_ k_)
            have go235 : Go p e below s₁ F0 T233 (mkF m 38 #[vr a1, vr a2, vi (2 : Int32), vr a2, vi (3 : Int32), vi (2 : Int32), vi k2] [(.int (2 : Int32)), (.ref w)]) := by
              intro t_ k_
              refine go234 t_ ?_
              refine o_iloadN X233 hx (hb hby d6_37) rfl ?_
              exact k_
            obtain ⟨cl236, Ar236, -, Sz236, Nn236, Hs236, -⟩ := id VL
            have hin236 : ¬ ((2 : Int32) < 0 ∨ cl236.slots.size ≤ ((2 : Int32)).toNatClampNeg) := inb_of Sz236 ⟨by decide, by decide⟩
            have hat236 : cl236.slots[((2 : Int32)).toNatClampNeg]? = some (.int l2) := Hs236.at hin236 rfl
            have go238 : Go p e below s₁ F0 T233 (mkF m 41 #[vr a1, vr a2, vi (2 : Int32), vr a2, vi (3 : Int32), vi (2 : Int32), vi k2] [(.int k2), (.int l2)]) := by
              intro t_ k_
              refine go235 t_ ?_
              refine o_iaload X233 hx hZ e233 Ar236 hin236 hat236 (hb hby d6_38) ?_
              refine o_iload X233 hx (hb hby d6_39) rfl ?_
              exact k_
            have hd237 : l2 < k2 := (by rw [hc67_225]; exact s1)
            have go239 : Go p e below s₁ F0 T233 (mkF m 26 #[vr a1, vr a2, vi (3 : Int32), vr a2, vi (3 : Int32), vi (2 : Int32), vi k2] [(.ref a1), (.int (3 : Int32))]) := by
              intro t_ k_
              refine go238 t_ ?_
              refine o_icmpNo X233 hx (hb hby d6_41) (tlt hd237).2.1 ?_
              refine o_iinc X233 hx (hb hby d6_44) rfl (L' := #[vr a1, vr a2, vi (3 : Int32), vr a2, vi (3 : Int32), vi (2 : Int32), vi k2]) rfl ?_
              refine o_goto X233 hx (hb hby d6_47) (pc' := 24) rfl (by decide) ?_
              refine o_iloadN X233 hx (hb hby d6_24) rfl ?_
              refine o_aloadN X233 hx (hb hby d6_25) rfl rfl ?_
              exact k_
            obtain ⟨T240, X240, e240, st240⟩ := getF X233 hx hZ hown (host := "") (Or.inl (own_w hw 26 rfl)) Via.refl e233 Fl (g := (mkF m 26 #[vr a1, vr a2, vi (3 : Int32), vr a2, vi (3 : Int32), vi (2 : Int32), vi k2] [(.ref a1), (.int (3 : Int32))])) rfl rfl (hb hby d6_26)
            have go241 : Go p e below s₁ F0 T240 (mkF m 29 #[vr a1, vr a2, vi (3 : Int32), vr a2, vi (3 : Int32), vi (2 : Int32), vi k2] [(.ref w), (.int (3 : Int32))]) := fun t_ k_ => go239 t_ (st240 t_ k_)
            obtain ⟨cl242, Ar242, -, Sz242, Nn242, -, -⟩ := id VL
            have go243 : Go p e below s₁ F0 T240 (mkF m 52 #[vr a1, vr a2, vi (3 : Int32), vr a2, vi (3 : Int32), vi (2 : Int32), vi k2] [(.ref a1), (.int (3 : Int32))]) := by
              intro t_ k_
              refine go241 t_ ?_
              refine o_len X240 hx hZ e240 Ar242 Sz242 Nn242 (hb hby d6_29) ?_
              refine o_icmpYes X240 hx (hb hby d6_30) (pc' := 50) rfl (by decide) (flt (by decide : ¬ ((3 : Int32) < (3 : Int32)))).2.1 ?_
              refine o_iloadN X240 hx (hb hby d6_50) rfl ?_
              refine o_aloadN X240 hx (hb hby d6_51) rfl rfl ?_
              exact k_
            obtain ⟨T244, X244, e244, st244⟩ := getF X240 hx hZ hown (host := "") (Or.inl (own_w hw 26 rfl)) Via.refl e240 Fl (g := (mkF m 52 #[vr a1, vr a2, vi (3 : Int32), vr a2, vi (3 : Int32), vi (2 : Int32), vi k2] [(.ref a1), (.int (3 : Int32))])) rfl rfl (hb hby d6_52)
            have go245 : Go p e below s₁ F0 T244 (mkF m 55 #[vr a1, vr a2, vi (3 : Int32), vr a2, vi (3 : Int32), vi (2 : Int32), vi k2] [(.ref w), (.int (3 : Int32))]) := fun t_ k_ => go243 t_ (st244 t_ k_)
            obtain ⟨cl246, Ar246, -, Sz246, Nn246, -, -⟩ := id VL
            have go247 : Go p e below s₁ F0 T244 (mkF m 71 #[vr a1, vr a2, vi (3 : Int32), vr a2, vi (3 : Int32), vi (2 : Int32), vi k2] [(.int (0 : Int32))]) := by
              intro t_ k_
              refine go245 t_ ?_
              refine o_len X244 hx hZ e244 Ar246 Sz246 Nn246 (hb hby d6_55) ?_
              refine o_icmpYes X244 hx (hb hby d6_56) (pc' := 70) rfl (by decide) (teq (by decide : (3 : Int32) = (3 : Int32))).1 ?_
              refine o_iconst X244 hx (hb hby d6_70) (v := 0) rfl ?_
              exact k_
            obtain ⟨fs, hr, hrun, hended, hW, hsame⟩ := X244.leave (v := some (.int (0 : Int32))) (fun h => by rw [Bd.returns] at h; cases h)
            refine ⟨_, _, pre0 _ (go247 _ ?_), hrun, hended, _, _, rfl, ?_, ⟨_, rfl⟩, hW, hsame.mono (by decide) (by decide)⟩
            · skip
              exact retN X244 hx (t := .boolean) Bd.returns (by simp) (hb hby d6_71) hr
            · show Q6_3_3 Z a1 a2 w kw kn l0 l1 l2 k0 k1 k2 h0 n0 _ T244.heap _
              rw [e244]
              exact ⟨(congrArg (fun z => some (Value.int z)) (show (0 : Int32) = f6_3_3 l0 l1 l2 k0 k1 k2 from by unfold f6_3_3; rw [if_neg hc41_15, if_pos hc67_170, if_pos hc41_194, if_neg hc41_205, if_pos hc67_225])), N0, rfl⟩
          · skip
            have go248 : Go p e below s₁ F0 T220 (mkF m 71 #[vr a1, vr a2, vi (2 : Int32), vr a2, vi (3 : Int32), vi (1 : Int32), vi k1] [(.int (0 : Int32))]) := by
              intro t_ k_
              refine go224 t_ ?_
              refine o_icmpNo X220 hx (hb hby d6_67) (feq hc67_225).1 ?_
              refine o_iconst X220 hx (hb hby d6_70) (v := 0) rfl ?_
              exact k_
            obtain ⟨fs, hr, hrun, hended, hW, hsame⟩ := X220.leave (v := some (.int (0 : Int32))) (fun h => by rw [Bd.returns] at h; cases h)
            refine ⟨_, _, pre0 _ (go248 _ ?_), hrun, hended, _, _, rfl, ?_, ⟨_, rfl⟩, hW, hsame.mono (by decide) (by decide)⟩
            · skip
              exact retN X220 hx (t := .boolean) Bd.returns (by simp) (hb hby d6_71) hr
            · show Q6_3_3 Z a1 a2 w kw kn l0 l1 l2 k0 k1 k2 h0 n0 _ T220.heap _
              rw [e220]
              exact ⟨(congrArg (fun z => some (Value.int z)) (show (0 : Int32) = f6_3_3 l0 l1 l2 k0 k1 k2 from by unfold f6_3_3; rw [if_neg hc41_15, if_pos hc67_170, if_pos hc41_194, if_neg hc41_205, if_neg hc67_225])), N0, rfl⟩
      · skip
        have go249 : Go p e below s₁ F0 T189 (mkF m 52 #[vr a1, vr a2, vi (1 : Int32), vr a2, vi (3 : Int32), vi (1 : Int32), vi k1] [(.ref a1), (.int (1 : Int32))]) := by
          intro t_ k_
          refine go193 t_ ?_
          refine o_icmpYes X189 hx (hb hby d6_41) (pc' := 50) rfl (by decide) (flt hc41_194).2.1 ?_
          refine o_iloadN X189 hx (hb hby d6_50) rfl ?_
          refine o_aloadN X189 hx (hb hby d6_51) rfl rfl ?_
          exact k_
        obtain ⟨T250, X250, e250, st250⟩ := getF X189 hx hZ hown (host := "") (Or.inl (own_w hw 26 rfl)) Via.refl e189 Fl (g := (mkF m 52 #[vr a1, vr a2, vi (1 : Int32), vr a2, vi (3 : Int32), vi (1 : Int32), vi k1] [(.ref a1), (.int (1 : Int32))])) rfl rfl (hb hby d6_52)
        have go251 : Go p e below s₁ F0 T250 (mkF m 55 #[vr a1, vr a2, vi (1 : Int32), vr a2, vi (3 : Int32), vi (1 : Int32), vi k1] [(.ref w), (.int (1 : Int32))]) := fun t_ k_ => go249 t_ (st250 t_ k_)
        obtain ⟨cl252, Ar252, -, Sz252, Nn252, -, -⟩ := id VL
        have go253 : Go p e below s₁ F0 T250 (mkF m 60 #[vr a1, vr a2, vi (1 : Int32), vr a2, vi (3 : Int32), vi (1 : Int32), vi k1] [(.ref a1)]) := by
          intro t_ k_
          refine go251 t_ ?_
          refine o_len X250 hx hZ e250 Ar252 Sz252 Nn252 (hb hby d6_55) ?_
          refine o_icmpNo X250 hx (hb hby d6_56) (feq (by decide : ¬ ((1 : Int32) = (3 : Int32)))).1 ?_
          refine o_aloadN X250 hx (hb hby d6_59) rfl rfl ?_
          exact k_
        obtain ⟨T254, X254, e254, st254⟩ := getF X250 hx hZ hown (host := "") (Or.inl (own_w hw 26 rfl)) Via.refl e250 Fl (g := (mkF m 60 #[vr a1, vr a2, vi (1 : Int32), vr a2, vi (3 : Int32), vi (1 : Int32), vi k1] [(.ref a1)])) rfl rfl (hb hby d6_60)
        have go255 : Go p e below s₁ F0 T254 (mkF m 63 #[vr a1, vr a2, vi (1 : Int32), vr a2, vi (3 : Int32), vi (1 : Int32), vi k1] [(.ref w)]) := fun t_ k_ => go253 t_ (st254 t_ k_)
        have go256 : Go p e below s₁ F0 T254 (mkF m 64 #[vr a1, vr a2, vi (1 : Int32), vr a2, vi (3 : Int32), vi (1 : Int32), vi k1] [(.int (1 : Int32)), (.ref w)]) := by
          intro t_ k_
          refine go255 t_ ?_
          refine o_iloadN X254 hx (hb hby d6_63) rfl ?_
          exact k_
        obtain ⟨cl257, Ar257, -, Sz257, Nn257, Hs257, -⟩ := id VL
        have hin257 : ¬ ((1 : Int32) < 0 ∨ cl257.slots.size ≤ ((1 : Int32)).toNatClampNeg) := inb_of Sz257 ⟨by decide, by decide⟩
        have hat257 : cl257.slots[((1 : Int32)).toNatClampNeg]? = some (.int l1) := Hs257.at hin257 rfl
        have go258 : Go p e below s₁ F0 T254 (mkF m 67 #[vr a1, vr a2, vi (1 : Int32), vr a2, vi (3 : Int32), vi (1 : Int32), vi k1] [(.int k1), (.int l1)]) := by
          intro t_ k_
          refine go256 t_ ?_
          refine o_iaload X254 hx hZ e254 Ar257 hin257 hat257 (hb hby d6_64) ?_
          refine o_iload X254 hx (hb hby d6_65) rfl ?_
          exact k_
        by_cases hc67_259 : l1 = k1
        · skip
          have go260 : Go p e below s₁ F0 T254 (mkF m 21 #[vr a1, vr a2, vi (1 : Int32), vr a2, vi (3 : Int32), vi (2 : Int32), vi k1] [(.int (2 : Int32)), (.ref a2)]) := by
            intro t_ k_
            refine go258 t_ ?_
            refine o_icmpYes X254 hx (hb hby d6_67) (pc' := 72) rfl (by decide) (teq hc67_259).1 ?_
            refine o_iinc X254 hx (hb hby d6_72) rfl (L' := #[vr a1, vr a2, vi (1 : Int32), vr a2, vi (3 : Int32), vi (2 : Int32), vi k1]) rfl ?_
            refine o_goto X254 hx (hb hby d6_75) (pc' := 11) rfl (by decide) ?_
            refine o_iload X254 hx (hb hby d6_11) rfl ?_
            refine o_iload X254 hx (hb hby d6_13) rfl ?_
            refine o_icmpNo X254 hx (hb hby d6_15) (tlt (by decide : (2 : Int32) < (3 : Int32))).2.1 ?_
            refine o_aloadN X254 hx (hb hby d6_18) rfl rfl ?_
            refine o_iload X254 hx (hb hby d6_19) rfl ?_
            exact k_
          obtain ⟨cl261, Ar261, -, Sz261, Nn261, Hs261, -⟩ := id VN
          have hin261 : ¬ ((2 : Int32) < 0 ∨ cl261.slots.size ≤ ((2 : Int32)).toNatClampNeg) := inb_of Sz261 ⟨by decide, by decide⟩
          have hat261 : cl261.slots[((2 : Int32)).toNatClampNeg]? = some (.int k2) := Hs261.at hin261 rfl
          have go262 : Go p e below s₁ F0 T254 (mkF m 26 #[vr a1, vr a2, vi (1 : Int32), vr a2, vi (3 : Int32), vi (2 : Int32), vi k2] [(.ref a1), (.int (1 : Int32))]) := by
            intro t_ k_
            refine go260 t_ ?_
            refine o_iaload X254 hx hZ e254 Ar261 hin261 hat261 (hb hby d6_21) ?_
            refine o_istore X254 hx (hb hby d6_22) (L' := #[vr a1, vr a2, vi (1 : Int32), vr a2, vi (3 : Int32), vi (2 : Int32), vi k2]) rfl ?_
            refine o_iloadN X254 hx (hb hby d6_24) rfl ?_
            refine o_aloadN X254 hx (hb hby d6_25) rfl rfl ?_
            exact k_
          obtain ⟨T263, X263, e263, st263⟩ := getF X254 hx hZ hown (host := "") (Or.inl (own_w hw 26 rfl)) Via.refl e254 Fl (g := (mkF m 26 #[vr a1, vr a2, vi (1 : Int32), vr a2, vi (3 : Int32), vi (2 : Int32), vi k2] [(.ref a1), (.int (1 : Int32))])) rfl rfl (hb hby d6_26)
          have go264 : Go p e below s₁ F0 T263 (mkF m 29 #[vr a1, vr a2, vi (1 : Int32), vr a2, vi (3 : Int32), vi (2 : Int32), vi k2] [(.ref w), (.int (1 : Int32))]) := fun t_ k_ => go262 t_ (st263 t_ k_)
          obtain ⟨cl265, Ar265, -, Sz265, Nn265, -, -⟩ := id VL
          have go266 : Go p e below s₁ F0 T263 (mkF m 34 #[vr a1, vr a2, vi (1 : Int32), vr a2, vi (3 : Int32), vi (2 : Int32), vi k2] [(.ref a1)]) := by
            intro t_ k_
            refine go264 t_ ?_
            refine o_len X263 hx hZ e263 Ar265 Sz265 Nn265 (hb hby d6_29) ?_
            refine o_icmpNo X263 hx (hb hby d6_30) (tlt (by decide : (1 : Int32) < (3 : Int32))).2.1 ?_
            refine o_aloadN X263 hx (hb hby d6_33) rfl rfl ?_
            exact k_
          obtain ⟨T267, X267, e267, st267⟩ := getF X263 hx hZ hown (host := "") (Or.inl (own_w hw 26 rfl)) Via.refl e263 Fl (g := (mkF m 34 #[vr a1, vr a2, vi (1 : Int32), vr a2, vi (3 : Int32), vi (2 : Int32), vi k2] [(.ref a1)])) rfl rfl (hb hby d6_34)
          have go268 : Go p e below s₁ F0 T267 (mkF m 37 #[vr a1, vr a2, vi (1 : Int32), vr a2, vi (3 : Int32), vi (2 : Int32), vi k2] [(.ref w)]) := fun t_ k_ => go266 t_ (st267 t_ k_)
          have go269 : Go p e below s₁ F0 T267 (mkF m 38 #[vr a1, vr a2, vi (1 : Int32), vr a2, vi (3 : Int32), vi (2 : Int32), vi k2] [(.int (1 : Int32)), (.ref w)]) := by
            intro t_ k_
            refine go268 t_ ?_
            refine o_iloadN X267 hx (hb hby d6_37) rfl ?_
            exact k_
          obtain ⟨cl270, Ar270, -, Sz270, Nn270, Hs270, -⟩ := id VL
          have hin270 : ¬ ((1 : Int32) < 0 ∨ cl270.slots.size ≤ ((1 : Int32)).toNatClampNeg) := inb_of Sz270 ⟨by decide, by decide⟩
          have hat270 : cl270.slots[((1 : Int32)).toNatClampNeg]? = some (.int l1) := Hs270.at hin270 rfl
          have go272 : Go p e below s₁ F0 T267 (mkF m 41 #[vr a1, vr a2, vi (1 : Int32), vr a2, vi (3 : Int32), vi (2 : Int32), vi k2] [(.int k2), (.int l1)]) := by
            intro t_ k_
            refine go269 t_ ?_
            refine o_iaload X267 hx hZ e267 Ar270 hin270 hat270 (hb hby d6_38) ?_
            refine o_iload X267 hx (hb hby d6_39) rfl ?_
            exact k_
          have hd271 : l1 < k2 := (by rw [hc67_259]; exact s1)
          have go273 : Go p e below s₁ F0 T267 (mkF m 26 #[vr a1, vr a2, vi (2 : Int32), vr a2, vi (3 : Int32), vi (2 : Int32), vi k2] [(.ref a1), (.int (2 : Int32))]) := by
            intro t_ k_
            refine go272 t_ ?_
            refine o_icmpNo X267 hx (hb hby d6_41) (tlt hd271).2.1 ?_
            refine o_iinc X267 hx (hb hby d6_44) rfl (L' := #[vr a1, vr a2, vi (2 : Int32), vr a2, vi (3 : Int32), vi (2 : Int32), vi k2]) rfl ?_
            refine o_goto X267 hx (hb hby d6_47) (pc' := 24) rfl (by decide) ?_
            refine o_iloadN X267 hx (hb hby d6_24) rfl ?_
            refine o_aloadN X267 hx (hb hby d6_25) rfl rfl ?_
            exact k_
          obtain ⟨T274, X274, e274, st274⟩ := getF X267 hx hZ hown (host := "") (Or.inl (own_w hw 26 rfl)) Via.refl e267 Fl (g := (mkF m 26 #[vr a1, vr a2, vi (2 : Int32), vr a2, vi (3 : Int32), vi (2 : Int32), vi k2] [(.ref a1), (.int (2 : Int32))])) rfl rfl (hb hby d6_26)
          have go275 : Go p e below s₁ F0 T274 (mkF m 29 #[vr a1, vr a2, vi (2 : Int32), vr a2, vi (3 : Int32), vi (2 : Int32), vi k2] [(.ref w), (.int (2 : Int32))]) := fun t_ k_ => go273 t_ (st274 t_ k_)
          obtain ⟨cl276, Ar276, -, Sz276, Nn276, -, -⟩ := id VL
          have go277 : Go p e below s₁ F0 T274 (mkF m 34 #[vr a1, vr a2, vi (2 : Int32), vr a2, vi (3 : Int32), vi (2 : Int32), vi k2] [(.ref a1)]) := by
            intro t_ k_
            refine go275 t_ ?_
            refine o_len X274 hx hZ e274 Ar276 Sz276 Nn276 (hb hby d6_29) ?_
            refine o_icmpNo X274 hx (hb hby d6_30) (tlt (by decide : (2 : Int32) < (3 : Int32))).2.1 ?_
            refine o_aloadN X274 hx (hb hby d6_33) rfl rfl ?_
            exact k_
          obtain ⟨T278, X278, e278, st278⟩ := getF X274 hx hZ hown (host := "") (Or.inl (own_w hw 26 rfl)) Via.refl e274 Fl (g := (mkF m 34 #[vr a1, vr a2, vi (2 : Int32), vr a2, vi (3 : Int32), vi (2 : Int32), vi k2] [(.ref a1)])) rfl rfl (hb hby d6_34)
          have go279 : Go p e below s₁ F0 T278 (mkF m 37 #[vr a1, vr a2, vi (2 : Int32), vr a2, vi (3 : Int32), vi (2 : Int32), vi k2] [(.ref w)]) := fun t_ k_ => go277 t_ (st278 t_ k_)
          have go280 : Go p e below s₁ F0 T278 (mkF m 38 #[vr a1, vr a2, vi (2 : Int32), vr a2, vi (3 : Int32), vi (2 : Int32), vi k2] [(.int (2 : Int32)), (.ref w)]) := by
            intro t_ k_
            refine go279 t_ ?_
            refine o_iloadN X278 hx (hb hby d6_37) rfl ?_
            exact k_
          obtain ⟨cl281, Ar281, -, Sz281, Nn281, Hs281, -⟩ := id VL
          have hin281 : ¬ ((2 : Int32) < 0 ∨ cl281.slots.size ≤ ((2 : Int32)).toNatClampNeg) := inb_of Sz281 ⟨by decide, by decide⟩
          have hat281 : cl281.slots[((2 : Int32)).toNatClampNeg]? = some (.int l2) := Hs281.at hin281 rfl
          have go282 : Go p e below s₁ F0 T278 (mkF m 41 #[vr a1, vr a2, vi (2 : Int32), vr a2, vi (3 : Int32), vi (2 : Int32), vi k2] [(.int k2), (.int l2)]) := by
            intro t_ k_
            refine go280 t_ ?_
            refine o_iaload X278 hx hZ e278 Ar281 hin281 hat281 (hb hby d6_38) ?_
            refine o_iload X278 hx (hb hby d6_39) rfl ?_
            exact k_
          by_cases hc41_283 : l2 < k2
          · skip
            have go284 : Go p e below s₁ F0 T278 (mkF m 26 #[vr a1, vr a2, vi (3 : Int32), vr a2, vi (3 : Int32), vi (2 : Int32), vi k2] [(.ref a1), (.int (3 : Int32))]) := by
              intro t_ k_
              refine go282 t_ ?_
              refine o_icmpNo X278 hx (hb hby d6_41) (tlt hc41_283).2.1 ?_
              refine o_iinc X278 hx (hb hby d6_44) rfl (L' := #[vr a1, vr a2, vi (3 : Int32), vr a2, vi (3 : Int32), vi (2 : Int32), vi k2]) rfl ?_
              refine o_goto X278 hx (hb hby d6_47) (pc' := 24) rfl (by decide) ?_
              refine o_iloadN X278 hx (hb hby d6_24) rfl ?_
              refine o_aloadN X278 hx (hb hby d6_25) rfl rfl ?_
              exact k_
            obtain ⟨T285, X285, e285, st285⟩ := getF X278 hx hZ hown (host := "") (Or.inl (own_w hw 26 rfl)) Via.refl e278 Fl (g := (mkF m 26 #[vr a1, vr a2, vi (3 : Int32), vr a2, vi (3 : Int32), vi (2 : Int32), vi k2] [(.ref a1), (.int (3 : Int32))])) rfl rfl (hb hby d6_26)
            have go286 : Go p e below s₁ F0 T285 (mkF m 29 #[vr a1, vr a2, vi (3 : Int32), vr a2, vi (3 : Int32), vi (2 : Int32), vi k2] [(.ref w), (.int (3 : Int32))]) := fun t_ k_ => go284 t_ (st285 t_ k_)
            obtain ⟨cl287, Ar287, -, Sz287, Nn287, -, -⟩ := id VL
            have go288 : Go p e below s₁ F0 T285 (mkF m 52 #[vr a1, vr a2, vi (3 : Int32), vr a2, vi (3 : Int32), vi (2 : Int32), vi k2] [(.ref a1), (.int (3 : Int32))]) := by
              intro t_ k_
              refine go286 t_ ?_
              refine o_len X285 hx hZ e285 Ar287 Sz287 Nn287 (hb hby d6_29) ?_
              refine o_icmpYes X285 hx (hb hby d6_30) (pc' := 50) rfl (by decide) (flt (by decide : ¬ ((3 : Int32) < (3 : Int32)))).2.1 ?_
              refine o_iloadN X285 hx (hb hby d6_50) rfl ?_
              refine o_aloadN X285 hx (hb hby d6_51) rfl rfl ?_
              exact k_
            obtain ⟨T289, X289, e289, st289⟩ := getF X285 hx hZ hown (host := "") (Or.inl (own_w hw 26 rfl)) Via.refl e285 Fl (g := (mkF m 52 #[vr a1, vr a2, vi (3 : Int32), vr a2, vi (3 : Int32), vi (2 : Int32), vi k2] [(.ref a1), (.int (3 : Int32))])) rfl rfl (hb hby d6_52)
            have go290 : Go p e below s₁ F0 T289 (mkF m 55 #[vr a1, vr a2, vi (3 : Int32), vr a2, vi (3 : Int32), vi (2 : Int32), vi k2] [(.ref w), (.int (3 : Int32))]) := fun t_ k_ => go288 t_ (st289 t_ k_)
            obtain ⟨cl291, Ar291, -, Sz291, Nn291, -, -⟩ := id VL
            have go292 : Go p e below s₁ F0 T289 (mkF m 71 #[vr a1, vr a2, vi (3 : Int32), vr a2, vi (3 : Int32), vi (2 : Int32), vi k2] [(.int (0 : Int32))]) := by
              intro t_ k_
              refine go290 t_ ?_
              refine o_len X289 hx hZ e289 Ar291 Sz291 Nn291 (hb hby d6_55) ?_
              refine o_icmpYes X289 hx (hb hby d6_56) (pc' := 70) rfl (by decide) (teq (by decide : (3 : Int32) = (3 : Int32))).1 ?_
              refine o_iconst X289 hx (hb hby d6_70) (v := 0) rfl ?_
              exact k_
            obtain ⟨fs, hr, hrun, hended, hW, hsame⟩ := X289.leave (v := some (.int (0 : Int32))) (fun h => by rw [Bd.returns] at h; cases h)
            refine ⟨_, _, pre0 _ (go292 _ ?_), hrun, hended, _, _, rfl, ?_, ⟨_, rfl⟩, hW, hsame.mono (by decide) (by decide)⟩
            · skip
              exact retN X289 hx (t := .boolean) Bd.returns (by simp) (hb hby d6_71) hr
            · show Q6_3_3 Z a1 a2 w kw kn l0 l1 l2 k0 k1 k2 h0 n0 _ T289.heap _
              rw [e289]
              exact ⟨(congrArg (fun z => some (Value.int z)) (show (0 : Int32) = f6_3_3 l0 l1 l2 k0 k1 k2 from by unfold f6_3_3; rw [if_neg hc41_15, if_pos hc67_170, if_neg hc41_194, if_pos hc67_259, if_pos hc41_283])), N0, rfl⟩
          · skip
            have go293 : Go p e below s₁ F0 T278 (mkF m 52 #[vr a1, vr a2, vi (2 : Int32), vr a2, vi (3 : Int32), vi (2 : Int32), vi k2] [(.ref a1), (.int (2 : Int32))]) := by
              intro t_ k_
              refine go282 t_ ?_
              refine o_icmpYes X278 hx (hb hby d6_41) (pc' := 50) rfl (by decide) (flt hc41_283).2.1 ?_
              refine o_iloadN X278 hx (hb hby d6_50) rfl ?_
              refine o_aloadN X278 hx (hb hby d6_51) rfl rfl ?_
              exact k_
            obtain ⟨T294, X294, e294, st294⟩ := getF X278 hx hZ hown (host := "") (Or.inl (own_w hw 26 rfl)) Via.refl e278 Fl (g := (mkF m 52 #[vr a1, vr a2, vi (2 : Int32), vr a2, vi (3 : Int32), vi (2 : Int32), vi k2] [(.ref a1), (.int (2 : Int32))])) rfl rfl (hb hby d6_52)
            have go295 : Go p e below s₁ F0 T294 (mkF m 55 #[vr a1, vr a2, vi (2 : Int32), vr a2, vi (3 : Int32), vi (2 : Int32), vi k2] [(.ref w), (.int (2 : Int32))]) := fun t_ k_ => go293 t_ (st294 t_ k_)
            obtain ⟨cl296, Ar296, -, Sz296, Nn296, -, -⟩ := id VL
            have go297 : Go p e below s₁ F0 T294 (mkF m 60 #[vr a1, vr a2, vi (2 : Int32), vr a2, vi (3 : Int32), vi (2 : Int32), vi k2] [(.ref a1)]) := by
              intro t_ k_
              refine go295 t_ ?_
              refine o_len X294 hx hZ e294 Ar296 Sz296 Nn296 (hb hby d6_55) ?_
              refine o_icmpNo X294 hx (hb hby d6_56) (feq (by decide : ¬ ((2 : Int32) = (3 : Int32)))).1 ?_
              refine o_aloadN X294 hx (hb hby d6_59) rfl rfl ?_
              exact k_
            obtain ⟨T298, X298, e298, st298⟩ := getF X294 hx hZ hown (host := "") (Or.inl (own_w hw 26 rfl)) Via.refl e294 Fl (g := (mkF m 60 #[vr a1, vr a2, vi (2 : Int32), vr a2, vi (3 : Int32), vi (2 : Int32), vi k2] [(.ref a1)])) rfl rfl (hb hby d6_60)
            have go299 : Go p e below s₁ F0 T298 (mkF m 63 #[vr a1, vr a2, vi (2 : Int32), vr a2, vi (3 : Int32), vi (2 : Int32), vi k2] [(.ref w)]) := fun t_ k_ => go297 t_ (st298 t_ k_)
            have go300 : Go p e below s₁ F0 T298 (mkF m 64 #[vr a1, vr a2, vi (2 : Int32), vr a2, vi (3 : Int32), vi (2 : Int32), vi k2] [(.int (2 : Int32)), (.ref w)]) := by
              intro t_ k_
              refine go299 t_ ?_
              refine o_iloadN X298 hx (hb hby d6_63) rfl ?_
              exact k_
            obtain ⟨cl301, Ar301, -, Sz301, Nn301, Hs301, -⟩ := id VL
            have hin301 : ¬ ((2 : Int32) < 0 ∨ cl301.slots.size ≤ ((2 : Int32)).toNatClampNeg) := inb_of Sz301 ⟨by decide, by decide⟩
            have hat301 : cl301.slots[((2 : Int32)).toNatClampNeg]? = some (.int l2) := Hs301.at hin301 rfl
            have go302 : Go p e below s₁ F0 T298 (mkF m 67 #[vr a1, vr a2, vi (2 : Int32), vr a2, vi (3 : Int32), vi (2 : Int32), vi k2] [(.int k2), (.int l2)]) := by
              intro t_ k_
              refine go300 t_ ?_
              refine o_iaload X298 hx hZ e298 Ar301 hin301 hat301 (hb hby d6_64) ?_
              refine o_iload X298 hx (hb hby d6_65) rfl ?_
              exact k_
            by_cases hc67_303 : l2 = k2
            · skip
              have go304 : Go p e below s₁ F0 T298 (mkF m 79 #[vr a1, vr a2, vi (2 : Int32), vr a2, vi (3 : Int32), vi (3 : Int32), vi k2] [(.int (1 : Int32))]) := by
                intro t_ k_
                refine go302 t_ ?_
                refine o_icmpYes X298 hx (hb hby d6_67) (pc' := 72) rfl (by decide) (teq hc67_303).1 ?_
                refine o_iinc X298 hx (hb hby d6_72) rfl (L' := #[vr a1, vr a2, vi (2 : Int32), vr a2, vi (3 : Int32), vi (3 : Int32), vi k2]) rfl ?_
                refine o_goto X298 hx (hb hby d6_75) (pc' := 11) rfl (by decide) ?_
                refine o_iload X298 hx (hb hby d6_11) rfl ?_
                refine o_iload X298 hx (hb hby d6_13) rfl ?_
                refine o_icmpYes X298 hx (hb hby d6_15) (pc' := 78) rfl (by decide) (flt (by decide : ¬ ((3 : Int32) < (3 : Int32)))).2.1 ?_
                refine o_iconst X298 hx (hb hby d6_78) (v := 1) rfl ?_
                exact k_
              obtain ⟨fs, hr, hrun, hended, hW, hsame⟩ := X298.leave (v := some (.int (1 : Int32))) (fun h => by rw [Bd.returns] at h; cases h)
              refine ⟨_, _, pre0 _ (go304 _ ?_), hrun, hended, _, _, rfl, ?_, ⟨_, rfl⟩, hW, hsame.mono (by decide) (by decide)⟩
              · skip
                exact retN X298 hx (t := .boolean) Bd.returns (by simp) (hb hby d6_79) hr
              · show Q6_3_3 Z a1 a2 w kw kn l0 l1 l2 k0 k1 k2 h0 n0 _ T298.heap _
                rw [e298]
                exact ⟨(congrArg (fun z => some (Value.int z)) (show (1 : Int32) = f6_3_3 l0 l1 l2 k0 k1 k2 from by unfold f6_3_3; rw [if_neg hc41_15, if_pos hc67_170, if_neg hc41_194, if_pos hc67_259, if_neg hc41_283, if_pos hc67_303])), N0, rfl⟩
            · skip
              have go305 : Go p e below s₁ F0 T298 (mkF m 71 #[vr a1, vr a2, vi (2 : Int32), vr a2, vi (3 : Int32), vi (2 : Int32), vi k2] [(.int (0 : Int32))]) := by
                intro t_ k_
                refine go302 t_ ?_
                refine o_icmpNo X298 hx (hb hby d6_67) (feq hc67_303).1 ?_
                refine o_iconst X298 hx (hb hby d6_70) (v := 0) rfl ?_
                exact k_
              obtain ⟨fs, hr, hrun, hended, hW, hsame⟩ := X298.leave (v := some (.int (0 : Int32))) (fun h => by rw [Bd.returns] at h; cases h)
              refine ⟨_, _, pre0 _ (go305 _ ?_), hrun, hended, _, _, rfl, ?_, ⟨_, rfl⟩, hW, hsame.mono (by decide) (by decide)⟩
              · skip
                exact retN X298 hx (t := .boolean) Bd.returns (by simp) (hb hby d6_71) hr
              · show Q6_3_3 Z a1 a2 w kw kn l0 l1 l2 k0 k1 k2 h0 n0 _ T298.heap _
                rw [e298]
                exact ⟨(congrArg (fun z => some (Value.int z)) (show (0 : Int32) = f6_3_3 l0 l1 l2 k0 k1 k2 from by unfold f6_3_3; rw [if_neg hc41_15, if_pos hc67_170, if_neg hc41_194, if_pos hc67_259, if_neg hc41_283, if_neg hc67_303])), N0, rfl⟩
        · skip
          have go306 : Go p e below s₁ F0 T254 (mkF m 71 #[vr a1, vr a2, vi (1 : Int32), vr a2, vi (3 : Int32), vi (1 : Int32), vi k1] [(.int (0 : Int32))]) := by
            intro t_ k_
            refine go258 t_ ?_
            refine o_icmpNo X254 hx (hb hby d6_67) (feq hc67_259).1 ?_
            refine o_iconst X254 hx (hb hby d6_70) (v := 0) rfl ?_
            exact k_
          obtain ⟨fs, hr, hrun, hended, hW, hsame⟩ := X254.leave (v := some (.int (0 : Int32))) (fun h => by rw [Bd.returns] at h; cases h)
          refine ⟨_, _, pre0 _ (go306 _ ?_), hrun, hended, _, _, rfl, ?_, ⟨_, rfl⟩, hW, hsame.mono (by decide) (by decide)⟩
          · skip
            exact retN X254 hx (t := .boolean) Bd.returns (by simp) (hb hby d6_71) hr
          · show Q6_3_3 Z a1 a2 w kw kn l0 l1 l2 k0 k1 k2 h0 n0 _ T254.heap _
            rw [e254]
            exact ⟨(congrArg (fun z => some (Value.int z)) (show (0 : Int32) = f6_3_3 l0 l1 l2 k0 k1 k2 from by unfold f6_3_3; rw [if_neg hc41_15, if_pos hc67_170, if_neg hc41_194, if_neg hc67_259])), N0, rfl⟩
    · skip
      have go307 : Go p e below s₁ F0 T165 (mkF m 71 #[vr a1, vr a2, vi (0 : Int32), vr a2, vi (3 : Int32), vi (0 : Int32), vi k0] [(.int (0 : Int32))]) := by
        intro t_ k_
        refine go169 t_ ?_
        refine o_icmpNo X165 hx (hb hby d6_67) (feq hc67_170).1 ?_
        refine o_iconst X165 hx (hb hby d6_70) (v := 0) rfl ?_
        exact k_
      obtain ⟨fs, hr, hrun, hended, hW, hsame⟩ := X165.leave (v := some (.int (0 : Int32))) (fun h => by rw [Bd.returns] at h; cases h)
      refine ⟨_, _, pre0 _ (go307 _ ?_), hrun, hended, _, _, rfl, ?_, ⟨_, rfl⟩, hW, hsame.mono (by decide) (by decide)⟩
      · skip
        exact retN X165 hx (t := .boolean) Bd.returns (by simp) (hb hby d6_71) hr
      · show Q6_3_3 Z a1 a2 w kw kn l0 l1 l2 k0 k1 k2 h0 n0 _ T165.heap _
        rw [e165]
        exact ⟨(congrArg (fun z => some (Value.int z)) (show (0 : Int32) = f6_3_3 l0 l1 l2 k0 k1 k2 from by unfold f6_3_3; rw [if_neg hc41_15, if_neg hc67_170])), N0, rfl⟩

theorem own_4 (p : Int32) : (p &&& (3 : Int32)) = (0 : Int32) ∨ (p &&& (3 : Int32)) = (1 : Int32) ∨ (p &&& (3 : Int32)) = (2 : Int32) ∨ (p &&& (3 : Int32)) = (3 : Int32) := by
  have h : (p &&& (3 : Int32)).toInt = p.toInt % 4 := c_mask p 3 2 (by decide) (by decide)
  have h2 : ((p &&& (3 : Int32))).toInt = 0 ∨ ((p &&& (3 : Int32))).toInt = 1 ∨ ((p &&& (3 : Int32))).toInt = 2 ∨ ((p &&& (3 : Int32))).toInt = 3 := by omega
  rcases h2 with h2 | h2 | h2 | h2
  · exact Or.inl (Int32.toInt_inj.mp h2)
  · exact Or.inr (Or.inl (Int32.toInt_inj.mp h2))
  · exact Or.inr (Or.inr (Or.inl (Int32.toInt_inj.mp h2)))
  · exact Or.inr (Or.inr (Or.inr (Int32.toInt_inj.mp h2)))

theorem own_t (x : Int32) : 0 ≤ (x &&& (3 : Int32)).toInt ∧ (x &&& (3 : Int32)).toInt ≤ 3 := by
  have h : (x &&& (3 : Int32)).toInt = x.toInt % 4 := c_mask x 3 2 (by decide) (by decide)
  omega
theorem own_b0 {p b : Int32} (h : b = (p >>> ((2 : Int32) &&& 31))) : -600000000 ≤ b.toInt ∧ b.toInt ≤ 600000000 := by
  have q : (p >>> ((2 : Int32) &&& 31)).toInt = p.toInt / 4 := c_ishr p 2 2 (by decide)
  have := p.toInt_lt; have := p.le_toInt
  rw [h]; omega
theorem own_n0 {b k x : Int32} (h : k = (b + (x &&& (3 : Int32)))) (hb : -600000000 ≤ b.toInt ∧ b.toInt ≤ 600000000) : -700000000 ≤ k.toInt ∧ k.toInt ≤ 700000000 := by
  have q := c_iadd b (x &&& (3 : Int32)); have q1 := own_t x
  have := (b + (x &&& (3 : Int32))).toInt_lt; have := (b + (x &&& (3 : Int32))).le_toInt
  rw [h]; omega
theorem own_n1 {k k' x : Int32} (h : k' = ((k + (1 : Int32)) + (x &&& (3 : Int32)))) (hb : -800000000 ≤ k.toInt ∧ k.toInt ≤ 800000000) : k.toInt < k'.toInt ∧ k'.toInt ≤ k.toInt + 4 := by
  have q0 := c_iadd k (1 : Int32); rw [show (1 : Int32).toInt = 1 from rfl] at q0
  have q := c_iadd (k + (1 : Int32)) (x &&& (3 : Int32)); have q1 := own_t x
  have := ((k + (1 : Int32)) + (x &&& (3 : Int32))).toInt_lt; have := ((k + (1 : Int32)) + (x &&& (3 : Int32))).le_toInt
  have := (k + (1 : Int32)).toInt_lt; have := (k + (1 : Int32)).le_toInt
  rw [h]; omega
theorem own_s0 {p b k0 k1 x y : Int32} (h : b = (p >>> ((2 : Int32) &&& 31))) (h0 : k0 = (b + (x &&& (3 : Int32)))) (h1 : k1 = ((k0 + (1 : Int32)) + (y &&& (3 : Int32)))) : k0 < k1 := by
  have a := own_n0 h0 (own_b0 h); have c := own_n1 h1 (by omega)
  rw [Int32.lt_iff_toInt_lt]; omega
theorem own_s1 {p b k0 k1 k2 x y z : Int32} (h : b = (p >>> ((2 : Int32) &&& 31))) (h0 : k0 = (b + (x &&& (3 : Int32)))) (h1 : k1 = ((k0 + (1 : Int32)) + (y &&& (3 : Int32)))) (h2 : k2 = ((k1 + (1 : Int32)) + (z &&& (3 : Int32)))) : k1 < k2 := by
  have a := own_n0 h0 (own_b0 h); have c := own_n1 h1 (by omega); have d := own_n1 h2 (by omega)
  rw [Int32.lt_iff_toInt_lt]; omega
theorem own_has_0 (a b c v : Int32) : f5_0 a b c v = (0 : Int32) ↔ True := by
  unfold f5_0
  repeat' split
  all_goals simp_all
theorem own_has_1 (a b c v : Int32) : f5_1 a b c v = (0 : Int32) ↔ ¬ a = v := by
  unfold f5_1
  repeat' split
  all_goals simp_all
theorem own_has_2 (a b c v : Int32) : f5_2 a b c v = (0 : Int32) ↔ ¬ a = v ∧ ¬ b = v := by
  unfold f5_2
  repeat' split
  all_goals simp_all
theorem own_has_3 (a b c v : Int32) : f5_3 a b c v = (0 : Int32) ↔ ¬ a = v ∧ ¬ b = v ∧ ¬ c = v := by
  unfold f5_3
  repeat' split
  all_goals simp_all
theorem own_yes_0_0 (l0 l1 l2 k0 k1 k2 : Int32)    : f6_0_0 = (1 : Int32) := by
  skip
  unfold f6_0_0
  repeat' split
  all_goals first | rfl | (exfalso; simp only [Int32.lt_iff_toInt_lt, ← Int32.toInt_inj] at *; omega)
theorem own_yes_0_1 (l0 l1 l2 k0 k1 k2 : Int32)   (h0 : ¬ f5_0 l0 l1 l2 k0 = (0 : Int32)) : (f6_0_1 k0) = (1 : Int32) := absurd ((own_has_0 l0 l1 l2 k0).mpr trivial) h0
theorem own_no_0_1_0 (l0 l1 l2 k0 k1 k2 : Int32)   (h : f5_0 l0 l1 l2 k0 = (0 : Int32)) : (f6_0_1 k0) = (0 : Int32) := by
  rw [own_has_0] at h
  unfold f6_0_1
  repeat' split
  all_goals first | rfl | (exfalso; simp only [Int32.lt_iff_toInt_lt, ← Int32.toInt_inj] at *; omega)
theorem own_yes_0_2 (l0 l1 l2 k0 k1 k2 : Int32)  (s0 : k0 < k1) (h0 : ¬ f5_0 l0 l1 l2 k0 = (0 : Int32)) (h1 : ¬ f5_0 l0 l1 l2 k1 = (0 : Int32)) : (f6_0_2 k0 k1) = (1 : Int32) := absurd ((own_has_0 l0 l1 l2 k0).mpr trivial) h0
theorem own_no_0_2_0 (l0 l1 l2 k0 k1 k2 : Int32)  (s0 : k0 < k1) (h : f5_0 l0 l1 l2 k0 = (0 : Int32)) : (f6_0_2 k0 k1) = (0 : Int32) := by
  rw [own_has_0] at h
  unfold f6_0_2
  repeat' split
  all_goals first | rfl | (exfalso; simp only [Int32.lt_iff_toInt_lt, ← Int32.toInt_inj] at *; omega)
theorem own_no_0_2_1 (l0 l1 l2 k0 k1 k2 : Int32)  (s0 : k0 < k1) (h : f5_0 l0 l1 l2 k1 = (0 : Int32)) : (f6_0_2 k0 k1) = (0 : Int32) := by
  rw [own_has_0] at h
  unfold f6_0_2
  repeat' split
  all_goals first | rfl | (exfalso; simp only [Int32.lt_iff_toInt_lt, ← Int32.toInt_inj] at *; omega)
theorem own_yes_0_3 (l0 l1 l2 k0 k1 k2 : Int32)  (s0 : k0 < k1) (s1 : k1 < k2) (h0 : ¬ f5_0 l0 l1 l2 k0 = (0 : Int32)) (h1 : ¬ f5_0 l0 l1 l2 k1 = (0 : Int32)) (h2 : ¬ f5_0 l0 l1 l2 k2 = (0 : Int32)) : (f6_0_3 k0 k1 k2) = (1 : Int32) := absurd ((own_has_0 l0 l1 l2 k0).mpr trivial) h0
theorem own_no_0_3_0 (l0 l1 l2 k0 k1 k2 : Int32)  (s0 : k0 < k1) (s1 : k1 < k2) (h : f5_0 l0 l1 l2 k0 = (0 : Int32)) : (f6_0_3 k0 k1 k2) = (0 : Int32) := by
  rw [own_has_0] at h
  unfold f6_0_3
  repeat' split
  all_goals first | rfl | (exfalso; simp only [Int32.lt_iff_toInt_lt, ← Int32.toInt_inj] at *; omega)
theorem own_no_0_3_1 (l0 l1 l2 k0 k1 k2 : Int32)  (s0 : k0 < k1) (s1 : k1 < k2) (h : f5_0 l0 l1 l2 k1 = (0 : Int32)) : (f6_0_3 k0 k1 k2) = (0 : Int32) := by
  rw [own_has_0] at h
  unfold f6_0_3
  repeat' split
  all_goals first | rfl | (exfalso; simp only [Int32.lt_iff_toInt_lt, ← Int32.toInt_inj] at *; omega)
theorem own_no_0_3_2 (l0 l1 l2 k0 k1 k2 : Int32)  (s0 : k0 < k1) (s1 : k1 < k2) (h : f5_0 l0 l1 l2 k2 = (0 : Int32)) : (f6_0_3 k0 k1 k2) = (0 : Int32) := by
  rw [own_has_0] at h
  unfold f6_0_3
  repeat' split
  all_goals first | rfl | (exfalso; simp only [Int32.lt_iff_toInt_lt, ← Int32.toInt_inj] at *; omega)
theorem own_yes_1_0 (l0 l1 l2 k0 k1 k2 : Int32)    : (f6_1_0 l0) = (1 : Int32) := by
  skip
  unfold f6_1_0
  repeat' split
  all_goals first | rfl | (exfalso; simp only [Int32.lt_iff_toInt_lt, ← Int32.toInt_inj] at *; omega)
theorem own_yes_1_1 (l0 l1 l2 k0 k1 k2 : Int32)   (h0 : ¬ f5_1 l0 l1 l2 k0 = (0 : Int32)) : (f6_1_1 l0 k0) = (1 : Int32) := by
  rw [own_has_1] at h0
  unfold f6_1_1
  repeat' split
  all_goals first | rfl | (exfalso; simp only [Int32.lt_iff_toInt_lt, ← Int32.toInt_inj] at *; omega)
theorem own_no_1_1_0 (l0 l1 l2 k0 k1 k2 : Int32)   (h : f5_1 l0 l1 l2 k0 = (0 : Int32)) : (f6_1_1 l0 k0) = (0 : Int32) := by
  rw [own_has_1] at h
  unfold f6_1_1
  repeat' split
  all_goals first | rfl | (exfalso; simp only [Int32.lt_iff_toInt_lt, ← Int32.toInt_inj] at *; omega)
theorem own_yes_1_2 (l0 l1 l2 k0 k1 k2 : Int32)  (s0 : k0 < k1) (h0 : ¬ f5_1 l0 l1 l2 k0 = (0 : Int32)) (h1 : ¬ f5_1 l0 l1 l2 k1 = (0 : Int32)) : (f6_1_2 l0 k0 k1) = (1 : Int32) := by
  rw [own_has_1] at h0 h1
  unfold f6_1_2
  repeat' split
  all_goals first | rfl | (exfalso; simp only [Int32.lt_iff_toInt_lt, ← Int32.toInt_inj] at *; omega)
theorem own_no_1_2_0 (l0 l1 l2 k0 k1 k2 : Int32)  (s0 : k0 < k1) (h : f5_1 l0 l1 l2 k0 = (0 : Int32)) : (f6_1_2 l0 k0 k1) = (0 : Int32) := by
  rw [own_has_1] at h
  unfold f6_1_2
  repeat' split
  all_goals first | rfl | (exfalso; simp only [Int32.lt_iff_toInt_lt, ← Int32.toInt_inj] at *; omega)
theorem own_no_1_2_1 (l0 l1 l2 k0 k1 k2 : Int32)  (s0 : k0 < k1) (h : f5_1 l0 l1 l2 k1 = (0 : Int32)) : (f6_1_2 l0 k0 k1) = (0 : Int32) := by
  rw [own_has_1] at h
  unfold f6_1_2
  repeat' split
  all_goals first | rfl | (exfalso; simp only [Int32.lt_iff_toInt_lt, ← Int32.toInt_inj] at *; omega)
theorem own_yes_1_3 (l0 l1 l2 k0 k1 k2 : Int32)  (s0 : k0 < k1) (s1 : k1 < k2) (h0 : ¬ f5_1 l0 l1 l2 k0 = (0 : Int32)) (h1 : ¬ f5_1 l0 l1 l2 k1 = (0 : Int32)) (h2 : ¬ f5_1 l0 l1 l2 k2 = (0 : Int32)) : (f6_1_3 l0 k0 k1 k2) = (1 : Int32) := by
  rw [own_has_1] at h0 h1 h2
  unfold f6_1_3
  repeat' split
  all_goals first | rfl | (exfalso; simp only [Int32.lt_iff_toInt_lt, ← Int32.toInt_inj] at *; omega)
theorem own_no_1_3_0 (l0 l1 l2 k0 k1 k2 : Int32)  (s0 : k0 < k1) (s1 : k1 < k2) (h : f5_1 l0 l1 l2 k0 = (0 : Int32)) : (f6_1_3 l0 k0 k1 k2) = (0 : Int32) := by
  rw [own_has_1] at h
  unfold f6_1_3
  repeat' split
  all_goals first | rfl | (exfalso; simp only [Int32.lt_iff_toInt_lt, ← Int32.toInt_inj] at *; omega)
theorem own_no_1_3_1 (l0 l1 l2 k0 k1 k2 : Int32)  (s0 : k0 < k1) (s1 : k1 < k2) (h : f5_1 l0 l1 l2 k1 = (0 : Int32)) : (f6_1_3 l0 k0 k1 k2) = (0 : Int32) := by
  rw [own_has_1] at h
  unfold f6_1_3
  repeat' split
  all_goals first | rfl | (exfalso; simp only [Int32.lt_iff_toInt_lt, ← Int32.toInt_inj] at *; omega)
theorem own_no_1_3_2 (l0 l1 l2 k0 k1 k2 : Int32)  (s0 : k0 < k1) (s1 : k1 < k2) (h : f5_1 l0 l1 l2 k2 = (0 : Int32)) : (f6_1_3 l0 k0 k1 k2) = (0 : Int32) := by
  rw [own_has_1] at h
  unfold f6_1_3
  repeat' split
  all_goals first | rfl | (exfalso; simp only [Int32.lt_iff_toInt_lt, ← Int32.toInt_inj] at *; omega)
theorem own_yes_2_0 (l0 l1 l2 k0 k1 k2 : Int32) (u0 : l0 < l1)   : (f6_2_0 l0 l1) = (1 : Int32) := by
  skip
  unfold f6_2_0
  repeat' split
  all_goals first | rfl | (exfalso; simp only [Int32.lt_iff_toInt_lt, ← Int32.toInt_inj] at *; omega)
theorem own_yes_2_1 (l0 l1 l2 k0 k1 k2 : Int32) (u0 : l0 < l1)  (h0 : ¬ f5_2 l0 l1 l2 k0 = (0 : Int32)) : (f6_2_1 l0 l1 k0) = (1 : Int32) := by
  rw [own_has_2] at h0
  unfold f6_2_1
  repeat' split
  all_goals first | rfl | (exfalso; simp only [Int32.lt_iff_toInt_lt, ← Int32.toInt_inj] at *; omega)
theorem own_no_2_1_0 (l0 l1 l2 k0 k1 k2 : Int32) (u0 : l0 < l1)  (h : f5_2 l0 l1 l2 k0 = (0 : Int32)) : (f6_2_1 l0 l1 k0) = (0 : Int32) := by
  rw [own_has_2] at h
  unfold f6_2_1
  repeat' split
  all_goals first | rfl | (exfalso; simp only [Int32.lt_iff_toInt_lt, ← Int32.toInt_inj] at *; omega)
theorem own_yes_2_2 (l0 l1 l2 k0 k1 k2 : Int32) (u0 : l0 < l1) (s0 : k0 < k1) (h0 : ¬ f5_2 l0 l1 l2 k0 = (0 : Int32)) (h1 : ¬ f5_2 l0 l1 l2 k1 = (0 : Int32)) : (f6_2_2 l0 l1 k0 k1) = (1 : Int32) := by
  rw [own_has_2] at h0 h1
  unfold f6_2_2
  repeat' split
  all_goals first | rfl | (exfalso; simp only [Int32.lt_iff_toInt_lt, ← Int32.toInt_inj] at *; omega)
theorem own_no_2_2_0 (l0 l1 l2 k0 k1 k2 : Int32) (u0 : l0 < l1) (s0 : k0 < k1) (h : f5_2 l0 l1 l2 k0 = (0 : Int32)) : (f6_2_2 l0 l1 k0 k1) = (0 : Int32) := by
  rw [own_has_2] at h
  unfold f6_2_2
  repeat' split
  all_goals first | rfl | (exfalso; simp only [Int32.lt_iff_toInt_lt, ← Int32.toInt_inj] at *; omega)
theorem own_no_2_2_1 (l0 l1 l2 k0 k1 k2 : Int32) (u0 : l0 < l1) (s0 : k0 < k1) (h : f5_2 l0 l1 l2 k1 = (0 : Int32)) : (f6_2_2 l0 l1 k0 k1) = (0 : Int32) := by
  rw [own_has_2] at h
  unfold f6_2_2
  repeat' split
  all_goals first | rfl | (exfalso; simp only [Int32.lt_iff_toInt_lt, ← Int32.toInt_inj] at *; omega)
theorem own_yes_2_3 (l0 l1 l2 k0 k1 k2 : Int32) (u0 : l0 < l1) (s0 : k0 < k1) (s1 : k1 < k2) (h0 : ¬ f5_2 l0 l1 l2 k0 = (0 : Int32)) (h1 : ¬ f5_2 l0 l1 l2 k1 = (0 : Int32)) (h2 : ¬ f5_2 l0 l1 l2 k2 = (0 : Int32)) : (f6_2_3 l0 l1 k0 k1 k2) = (1 : Int32) := by
  rw [own_has_2] at h0 h1 h2
  unfold f6_2_3
  repeat' split
  all_goals first | rfl | (exfalso; simp only [Int32.lt_iff_toInt_lt, ← Int32.toInt_inj] at *; omega)
theorem own_no_2_3_0 (l0 l1 l2 k0 k1 k2 : Int32) (u0 : l0 < l1) (s0 : k0 < k1) (s1 : k1 < k2) (h : f5_2 l0 l1 l2 k0 = (0 : Int32)) : (f6_2_3 l0 l1 k0 k1 k2) = (0 : Int32) := by
  rw [own_has_2] at h
  unfold f6_2_3
  repeat' split
  all_goals first | rfl | (exfalso; simp only [Int32.lt_iff_toInt_lt, ← Int32.toInt_inj] at *; omega)
theorem own_no_2_3_1 (l0 l1 l2 k0 k1 k2 : Int32) (u0 : l0 < l1) (s0 : k0 < k1) (s1 : k1 < k2) (h : f5_2 l0 l1 l2 k1 = (0 : Int32)) : (f6_2_3 l0 l1 k0 k1 k2) = (0 : Int32) := by
  rw [own_has_2] at h
  unfold f6_2_3
  repeat' split
  all_goals first | rfl | (exfalso; simp only [Int32.lt_iff_toInt_lt, ← Int32.toInt_inj] at *; omega)
theorem own_no_2_3_2 (l0 l1 l2 k0 k1 k2 : Int32) (u0 : l0 < l1) (s0 : k0 < k1) (s1 : k1 < k2) (h : f5_2 l0 l1 l2 k2 = (0 : Int32)) : (f6_2_3 l0 l1 k0 k1 k2) = (0 : Int32) := by
  rw [own_has_2] at h
  unfold f6_2_3
  repeat' split
  all_goals first | rfl | (exfalso; simp only [Int32.lt_iff_toInt_lt, ← Int32.toInt_inj] at *; omega)
theorem own_yes_3_0 (l0 l1 l2 k0 k1 k2 : Int32) (u0 : l0 < l1) (u1 : l1 < l2)   : (f6_3_0 l0 l1 l2) = (1 : Int32) := by
  skip
  unfold f6_3_0
  repeat' split
  all_goals first | rfl | (exfalso; simp only [Int32.lt_iff_toInt_lt, ← Int32.toInt_inj] at *; omega)
theorem own_yes_3_1 (l0 l1 l2 k0 k1 k2 : Int32) (u0 : l0 < l1) (u1 : l1 < l2)  (h0 : ¬ f5_3 l0 l1 l2 k0 = (0 : Int32)) : (f6_3_1 l0 l1 l2 k0) = (1 : Int32) := by
  rw [own_has_3] at h0
  unfold f6_3_1
  repeat' split
  all_goals first | rfl | (exfalso; simp only [Int32.lt_iff_toInt_lt, ← Int32.toInt_inj] at *; omega)
theorem own_no_3_1_0 (l0 l1 l2 k0 k1 k2 : Int32) (u0 : l0 < l1) (u1 : l1 < l2)  (h : f5_3 l0 l1 l2 k0 = (0 : Int32)) : (f6_3_1 l0 l1 l2 k0) = (0 : Int32) := by
  rw [own_has_3] at h
  unfold f6_3_1
  repeat' split
  all_goals first | rfl | (exfalso; simp only [Int32.lt_iff_toInt_lt, ← Int32.toInt_inj] at *; omega)
theorem own_yes_3_2 (l0 l1 l2 k0 k1 k2 : Int32) (u0 : l0 < l1) (u1 : l1 < l2) (s0 : k0 < k1) (h0 : ¬ f5_3 l0 l1 l2 k0 = (0 : Int32)) (h1 : ¬ f5_3 l0 l1 l2 k1 = (0 : Int32)) : (f6_3_2 l0 l1 l2 k0 k1) = (1 : Int32) := by
  rw [own_has_3] at h0 h1
  unfold f6_3_2
  repeat' split
  all_goals first | rfl | (exfalso; simp only [Int32.lt_iff_toInt_lt, ← Int32.toInt_inj] at *; omega)
theorem own_no_3_2_0 (l0 l1 l2 k0 k1 k2 : Int32) (u0 : l0 < l1) (u1 : l1 < l2) (s0 : k0 < k1) (h : f5_3 l0 l1 l2 k0 = (0 : Int32)) : (f6_3_2 l0 l1 l2 k0 k1) = (0 : Int32) := by
  rw [own_has_3] at h
  unfold f6_3_2
  repeat' split
  all_goals first | rfl | (exfalso; simp only [Int32.lt_iff_toInt_lt, ← Int32.toInt_inj] at *; omega)
theorem own_no_3_2_1 (l0 l1 l2 k0 k1 k2 : Int32) (u0 : l0 < l1) (u1 : l1 < l2) (s0 : k0 < k1) (h : f5_3 l0 l1 l2 k1 = (0 : Int32)) : (f6_3_2 l0 l1 l2 k0 k1) = (0 : Int32) := by
  rw [own_has_3] at h
  unfold f6_3_2
  repeat' split
  all_goals first | rfl | (exfalso; simp only [Int32.lt_iff_toInt_lt, ← Int32.toInt_inj] at *; omega)
theorem own_yes_3_3 (l0 l1 l2 k0 k1 k2 : Int32) (u0 : l0 < l1) (u1 : l1 < l2) (s0 : k0 < k1) (s1 : k1 < k2) (h0 : ¬ f5_3 l0 l1 l2 k0 = (0 : Int32)) (h1 : ¬ f5_3 l0 l1 l2 k1 = (0 : Int32)) (h2 : ¬ f5_3 l0 l1 l2 k2 = (0 : Int32)) : (f6_3_3 l0 l1 l2 k0 k1 k2) = (1 : Int32) := by
  rw [own_has_3] at h0 h1 h2
  unfold f6_3_3
  repeat' split
  all_goals first | rfl | (exfalso; simp only [Int32.lt_iff_toInt_lt, ← Int32.toInt_inj] at *; omega)
theorem own_no_3_3_0 (l0 l1 l2 k0 k1 k2 : Int32) (u0 : l0 < l1) (u1 : l1 < l2) (s0 : k0 < k1) (s1 : k1 < k2) (h : f5_3 l0 l1 l2 k0 = (0 : Int32)) : (f6_3_3 l0 l1 l2 k0 k1 k2) = (0 : Int32) := by
  rw [own_has_3] at h
  unfold f6_3_3
  repeat' split
  all_goals first | rfl | (exfalso; simp only [Int32.lt_iff_toInt_lt, ← Int32.toInt_inj] at *; omega)
theorem own_no_3_3_1 (l0 l1 l2 k0 k1 k2 : Int32) (u0 : l0 < l1) (u1 : l1 < l2) (s0 : k0 < k1) (s1 : k1 < k2) (h : f5_3 l0 l1 l2 k1 = (0 : Int32)) : (f6_3_3 l0 l1 l2 k0 k1 k2) = (0 : Int32) := by
  rw [own_has_3] at h
  unfold f6_3_3
  repeat' split
  all_goals first | rfl | (exfalso; simp only [Int32.lt_iff_toInt_lt, ← Int32.toInt_inj] at *; omega)
theorem own_no_3_3_2 (l0 l1 l2 k0 k1 k2 : Int32) (u0 : l0 < l1) (u1 : l1 < l2) (s0 : k0 < k1) (s1 : k1 < k2) (h : f5_3 l0 l1 l2 k2 = (0 : Int32)) : (f6_3_3 l0 l1 l2 k0 k1 k2) = (0 : Int32) := by
  rw [own_has_3] at h
  unfold f6_3_3
  repeat' split
  all_goals first | rfl | (exfalso; simp only [Int32.lt_iff_toInt_lt, ← Int32.toInt_inj] at *; omega)

theorem pn_0 : plainName "com/example/slackline/slackline/workload/MachineListsPinLaw" = true := by first | (simp [plainName, overriddenIn]; done) | decide +kernel
theorem pd0_0 : parseMethodDescriptor "(IIII)[I" = some ⟨[.int, .int, .int, .int], some (.array .int)⟩ := by decide +kernel
theorem pd0_1 : parseMethodDescriptor "(JJ[I[I)V" = some ⟨[.long, .long, (.array .int), (.array .int)], none⟩ := by decide +kernel
theorem pd0_2 : parseMethodDescriptor "([I)Z" = some ⟨[(.array .int)], some .boolean⟩ := by decide +kernel
theorem pd0_3 : parseMethodDescriptor "(IIIII)Z" = some ⟨[.int, .int, .int, .int, .int], some .boolean⟩ := by decide +kernel
theorem ef_0 (m : MethodId) (x0 : Int32) (x1 : Int32) (x2 : Int32) : entryFrame m #[(.int x0), (.int x1), (.int x2)] maxLocals = mkF m 0 #[vi x0, vi x1, vi x2, .unset, .unset, .unset, .unset, .unset, .unset, .unset, .unset, .unset, .unset, .unset, .unset, .unset] [] := by first | (simp [entryFrame, mkF, argsToLocals, Value.category, maxLocals]; done) | rfl
def Q0 (Z : State) (p1 : Int32) (p2 : Int32) (p3 : Int32) (h0 : Heap) (n0 : Nat) (v : Option Value) (h : Heap) (L : List Loc) : Prop := v = some (.int (1 : Int32)) ∧ Fr n0 L
set_option maxRecDepth 65536 in
set_option maxHeartbeats 40000000 in
theorem rm0 (l : Launch) (Z : State) (a0 : Array Value) (hw : ∀ d ∈ tables_1, d.before a0 Z = true) (ws : List Jvm.Cond) (p1 : Int32) (p2 : Int32) (p3 : Int32) (h0 : Heap) (n0 : Nat) (Z0 : n0 ≤ h0.size) :
    MetFree l x (head1 (Jvm.Cond.code x code maxLocals ret :: ws) room_1) (fun a U => a = #[(.int p1), (.int p2), (.int p3)] ∧ Z.Warmed39 U.vm ∧ U.heap = h0) (fun _ _ _ _ _ => True) (fun _ U o U' => ∃ v L, o = .returned v ∧ Q0 Z p1 p2 p3 h0 n0 v U'.heap L ∧ FrameEnd U o U' L room_1.cells room_1.slots) := by
  refine MetFree.of_bodySF (plainFor_of_name pn_0) hisR ?_
  intro p e s m args below meth c s₁ Bd hml0 hP hK
  obtain ⟨rfl, hZ, hh⟩ := hP
  have hx := Bd.exec
  have hby := Bd.bytes
  have hml : c.maxLocals = 16 := hml0
  have hown : s.vm.findClass "com/example/slackline/slackline/workload/MachineListsPinLaw" = some m.cls := findClass_of_methodNamed Bd.named
  have hnm := (name_of_methodNamed Bd.named Bd.method).1
  have X0 : Stand p l e room_1 s m #[(.int p1), (.int p2), (.int p3)] below meth c s₁ [] 0 0 := Stand.of_body Bd
  have e0 : s₁.heap = h0 := by rw [← hh, Bd.state]; rfl
  have N0 := Fr.nil n0
  obtain ⟨F0, hF0⟩ : ∃ F : JFrame, F = entryFrame m #[(.int p1), (.int p2), (.int p3)] maxLocals := ⟨_, rfl⟩
  have pre0 : ∀ t, Steps p.tables e below (s₁.setTop F0) t → Steps p.tables e below (s₁.setTop (entryFrame m #[(.int p1), (.int p2), (.int p3)] maxLocals)) t := fun t k => hF0 ▸ k
  have go0 : Go p e below s₁ F0 s₁ (mkF m 0 #[vi p1, vi p2, vi p3, .unset, .unset, .unset, .unset, .unset, .unset, .unset, .unset, .unset, .unset, .unset, .unset, .unset] []) := fun t k => castTop (hF0.trans (ef_0 m p1 p2 p3)) k
  have go1 : Go p e below s₁ F0 s₁ (mkF m 4 #[vi p1, vi p2, vi p3, vi (p1 >>> ((2 : Int32) &&& 31)), .unset, .unset, .unset, .unset, .unset, .unset, .unset, .unset, .unset, .unset, .unset, .unset] []) := by
    intro t_ k_
    refine go0 t_ ?_
    refine o_iloadN X0 hx (hb hby at_0) rfl ?_
    refine o_iconst X0 hx (hb hby at_1) (v := 2) rfl ?_
    refine o_ishr X0 hx (hb hby at_2) ?_
    refine o_istoreN X0 hx (hb hby at_3) (L' := #[vi p1, vi p2, vi p3, vi (p1 >>> ((2 : Int32) &&& 31)), .unset, .unset, .unset, .unset, .unset, .unset, .unset, .unset, .unset, .unset, .unset, .unset]) rfl ?_
    exact k_
  obtain ⟨b, h_b⟩ : ∃ z : Int32, z = (p1 >>> ((2 : Int32) &&& 31)) := ⟨_, rfl⟩
  have go2 : Go p e below s₁ F0 s₁ (mkF m 4 #[vi p1, vi p2, vi p3, vi b, .unset, .unset, .unset, .unset, .unset, .unset, .unset, .unset, .unset, .unset, .unset, .unset] []) := by rw [h_b]; exact go1
  have go3 : Go p e below s₁ F0 s₁ (mkF m 18 #[vi p1, vi p2, vi p3, vi b, vi (p2 &&& (3 : Int32)), vi (b + (((p2.toUInt32 >>> ((2 : Int32) &&& 31).toUInt32).toInt32) &&& (3 : Int32))), .unset, .unset, .unset, .unset, .unset, .unset, .unset, .unset, .unset, .unset] []) := by
    intro t_ k_
    refine go2 t_ ?_
    refine o_iloadN X0 hx (hb hby at_4) rfl ?_
    refine o_iconst X0 hx (hb hby at_5) (v := 3) rfl ?_
    refine o_iand X0 hx (hb hby at_6) ?_
    refine o_istore X0 hx (hb hby at_7) (L' := #[vi p1, vi p2, vi p3, vi b, vi (p2 &&& (3 : Int32)), .unset, .unset, .unset, .unset, .unset, .unset, .unset, .unset, .unset, .unset, .unset]) rfl ?_
    refine o_iloadN X0 hx (hb hby at_9) rfl ?_
    refine o_iloadN X0 hx (hb hby at_10) rfl ?_
    refine o_iconst X0 hx (hb hby at_11) (v := 2) rfl ?_
    refine o_iushr X0 hx (hb hby at_12) ?_
    refine o_iconst X0 hx (hb hby at_13) (v := 3) rfl ?_
    refine o_iand X0 hx (hb hby at_14) ?_
    refine o_iadd X0 hx (hb hby at_15) ?_
    refine o_istore X0 hx (hb hby at_16) (L' := #[vi p1, vi p2, vi p3, vi b, vi (p2 &&& (3 : Int32)), vi (b + (((p2.toUInt32 >>> ((2 : Int32) &&& 31).toUInt32).toInt32) &&& (3 : Int32))), .unset, .unset, .unset, .unset, .unset, .unset, .unset, .unset, .unset, .unset]) rfl ?_
    exact k_
  obtain ⟨l0, h_l0⟩ : ∃ z : Int32, z = (b + (((p2.toUInt32 >>> ((2 : Int32) &&& 31).toUInt32).toInt32) &&& (3 : Int32))) := ⟨_, rfl⟩
  have go4 : Go p e below s₁ F0 s₁ (mkF m 18 #[vi p1, vi p2, vi p3, vi b, vi (p2 &&& (3 : Int32)), vi l0, .unset, .unset, .unset, .unset, .unset, .unset, .unset, .unset, .unset, .unset] []) := by rw [h_l0]; exact go3
  have go5 : Go p e below s₁ F0 s₁ (mkF m 30 #[vi p1, vi p2, vi p3, vi b, vi (p2 &&& (3 : Int32)), vi l0, vi ((l0 + (1 : Int32)) + (((p2.toUInt32 >>> ((4 : Int32) &&& 31).toUInt32).toInt32) &&& (3 : Int32))), .unset, .unset, .unset, .unset, .unset, .unset, .unset, .unset, .unset] []) := by
    intro t_ k_
    refine go4 t_ ?_
    refine o_iload X0 hx (hb hby at_18) rfl ?_
    refine o_iconst X0 hx (hb hby at_20) (v := 1) rfl ?_
    refine o_iadd X0 hx (hb hby at_21) ?_
    refine o_iloadN X0 hx (hb hby at_22) rfl ?_
    refine o_iconst X0 hx (hb hby at_23) (v := 4) rfl ?_
    refine o_iushr X0 hx (hb hby at_24) ?_
    refine o_iconst X0 hx (hb hby at_25) (v := 3) rfl ?_
    refine o_iand X0 hx (hb hby at_26) ?_
    refine o_iadd X0 hx (hb hby at_27) ?_
    refine o_istore X0 hx (hb hby at_28) (L' := #[vi p1, vi p2, vi p3, vi b, vi (p2 &&& (3 : Int32)), vi l0, vi ((l0 + (1 : Int32)) + (((p2.toUInt32 >>> ((4 : Int32) &&& 31).toUInt32).toInt32) &&& (3 : Int32))), .unset, .unset, .unset, .unset, .unset, .unset, .unset, .unset, .unset]) rfl ?_
    exact k_
  obtain ⟨l1, h_l1⟩ : ∃ z : Int32, z = ((l0 + (1 : Int32)) + (((p2.toUInt32 >>> ((4 : Int32) &&& 31).toUInt32).toInt32) &&& (3 : Int32))) := ⟨_, rfl⟩
  have go6 : Go p e below s₁ F0 s₁ (mkF m 30 #[vi p1, vi p2, vi p3, vi b, vi (p2 &&& (3 : Int32)), vi l0, vi l1, .unset, .unset, .unset, .unset, .unset, .unset, .unset, .unset, .unset] []) := by rw [h_l1]; exact go5
  have go7 : Go p e below s₁ F0 s₁ (mkF m 43 #[vi p1, vi p2, vi p3, vi b, vi (p2 &&& (3 : Int32)), vi l0, vi l1, vi ((l1 + (1 : Int32)) + (((p2.toUInt32 >>> ((6 : Int32) &&& 31).toUInt32).toInt32) &&& (3 : Int32))), .unset, .unset, .unset, .unset, .unset, .unset, .unset, .unset] []) := by
    intro t_ k_
    refine go6 t_ ?_
    refine o_iload X0 hx (hb hby at_30) rfl ?_
    refine o_iconst X0 hx (hb hby at_32) (v := 1) rfl ?_
    refine o_iadd X0 hx (hb hby at_33) ?_
    refine o_iloadN X0 hx (hb hby at_34) rfl ?_
    refine o_bipush X0 hx (hb hby at_35) (v := 6) rfl ?_
    refine o_iushr X0 hx (hb hby at_37) ?_
    refine o_iconst X0 hx (hb hby at_38) (v := 3) rfl ?_
    refine o_iand X0 hx (hb hby at_39) ?_
    refine o_iadd X0 hx (hb hby at_40) ?_
    refine o_istore X0 hx (hb hby at_41) (L' := #[vi p1, vi p2, vi p3, vi b, vi (p2 &&& (3 : Int32)), vi l0, vi l1, vi ((l1 + (1 : Int32)) + (((p2.toUInt32 >>> ((6 : Int32) &&& 31).toUInt32).toInt32) &&& (3 : Int32))), .unset, .unset, .unset, .unset, .unset, .unset, .unset, .unset]) rfl ?_
    exact k_
  obtain ⟨l2, h_l2⟩ : ∃ z : Int32, z = ((l1 + (1 : Int32)) + (((p2.toUInt32 >>> ((6 : Int32) &&& 31).toUInt32).toInt32) &&& (3 : Int32))) := ⟨_, rfl⟩
  have go8 : Go p e below s₁ F0 s₁ (mkF m 43 #[vi p1, vi p2, vi p3, vi b, vi (p2 &&& (3 : Int32)), vi l0, vi l1, vi l2, .unset, .unset, .unset, .unset, .unset, .unset, .unset, .unset] []) := by rw [h_l2]; exact go7
  have go9 : Go p e below s₁ F0 s₁ (mkF m 57 #[vi p1, vi p2, vi p3, vi b, vi (p2 &&& (3 : Int32)), vi l0, vi l1, vi l2, vi (p3 &&& (3 : Int32)), vi (b + (((p3.toUInt32 >>> ((2 : Int32) &&& 31).toUInt32).toInt32) &&& (3 : Int32))), .unset, .unset, .unset, .unset, .unset, .unset] []) := by
    intro t_ k_
    refine go8 t_ ?_
    refine o_iloadN X0 hx (hb hby at_43) rfl ?_
    refine o_iconst X0 hx (hb hby at_44) (v := 3) rfl ?_
    refine o_iand X0 hx (hb hby at_45) ?_
    refine o_istore X0 hx (hb hby at_46) (L' := #[vi p1, vi p2, vi p3, vi b, vi (p2 &&& (3 : Int32)), vi l0, vi l1, vi l2, vi (p3 &&& (3 : Int32)), .unset, .unset, .unset, .unset, .unset, .unset, .unset]) rfl ?_
    refine o_iloadN X0 hx (hb hby at_48) rfl ?_
    refine o_iloadN X0 hx (hb hby at_49) rfl ?_
    refine o_iconst X0 hx (hb hby at_50) (v := 2) rfl ?_
    refine o_iushr X0 hx (hb hby at_51) ?_
    refine o_iconst X0 hx (hb hby at_52) (v := 3) rfl ?_
    refine o_iand X0 hx (hb hby at_53) ?_
    refine o_iadd X0 hx (hb hby at_54) ?_
    refine o_istore X0 hx (hb hby at_55) (L' := #[vi p1, vi p2, vi p3, vi b, vi (p2 &&& (3 : Int32)), vi l0, vi l1, vi l2, vi (p3 &&& (3 : Int32)), vi (b + (((p3.toUInt32 >>> ((2 : Int32) &&& 31).toUInt32).toInt32) &&& (3 : Int32))), .unset, .unset, .unset, .unset, .unset, .unset]) rfl ?_
    exact k_
  obtain ⟨k0, h_k0⟩ : ∃ z : Int32, z = (b + (((p3.toUInt32 >>> ((2 : Int32) &&& 31).toUInt32).toInt32) &&& (3 : Int32))) := ⟨_, rfl⟩
  have go10 : Go p e below s₁ F0 s₁ (mkF m 57 #[vi p1, vi p2, vi p3, vi b, vi (p2 &&& (3 : Int32)), vi l0, vi l1, vi l2, vi (p3 &&& (3 : Int32)), vi k0, .unset, .unset, .unset, .unset, .unset, .unset] []) := by rw [h_k0]; exact go9
  have go11 : Go p e below s₁ F0 s₁ (mkF m 69 #[vi p1, vi p2, vi p3, vi b, vi (p2 &&& (3 : Int32)), vi l0, vi l1, vi l2, vi (p3 &&& (3 : Int32)), vi k0, vi ((k0 + (1 : Int32)) + (((p3.toUInt32 >>> ((4 : Int32) &&& 31).toUInt32).toInt32) &&& (3 : Int32))), .unset, .unset, .unset, .unset, .unset] []) := by
    intro t_ k_
    refine go10 t_ ?_
    refine o_iload X0 hx (hb hby at_57) rfl ?_
    refine o_iconst X0 hx (hb hby at_59) (v := 1) rfl ?_
    refine o_iadd X0 hx (hb hby at_60) ?_
    refine o_iloadN X0 hx (hb hby at_61) rfl ?_
    refine o_iconst X0 hx (hb hby at_62) (v := 4) rfl ?_
    refine o_iushr X0 hx (hb hby at_63) ?_
    refine o_iconst X0 hx (hb hby at_64) (v := 3) rfl ?_
    refine o_iand X0 hx (hb hby at_65) ?_
    refine o_iadd X0 hx (hb hby at_66) ?_
    refine o_istore X0 hx (hb hby at_67) (L' := #[vi p1, vi p2, vi p3, vi b, vi (p2 &&& (3 : Int32)), vi l0, vi l1, vi l2, vi (p3 &&& (3 : Int32)), vi k0, vi ((k0 + (1 : Int32)) + (((p3.toUInt32 >>> ((4 : Int32) &&& 31).toUInt32).toInt32) &&& (3 : Int32))), .unset, .unset, .unset, .unset, .unset]) rfl ?_
    exact k_
  obtain ⟨k1, h_k1⟩ : ∃ z : Int32, z = ((k0 + (1 : Int32)) + (((p3.toUInt32 >>> ((4 : Int32) &&& 31).toUInt32).toInt32) &&& (3 : Int32))) := ⟨_, rfl⟩
  have go12 : Go p e below s₁ F0 s₁ (mkF m 69 #[vi p1, vi p2, vi p3, vi b, vi (p2 &&& (3 : Int32)), vi l0, vi l1, vi l2, vi (p3 &&& (3 : Int32)), vi k0, vi k1, .unset, .unset, .unset, .unset, .unset] []) := by rw [h_k1]; exact go11
  have go13 : Go p e below s₁ F0 s₁ (mkF m 82 #[vi p1, vi p2, vi p3, vi b, vi (p2 &&& (3 : Int32)), vi l0, vi l1, vi l2, vi (p3 &&& (3 : Int32)), vi k0, vi k1, vi ((k1 + (1 : Int32)) + (((p3.toUInt32 >>> ((6 : Int32) &&& 31).toUInt32).toInt32) &&& (3 : Int32))), .unset, .unset, .unset, .unset] []) := by
    intro t_ k_
    refine go12 t_ ?_
    refine o_iload X0 hx (hb hby at_69) rfl ?_
    refine o_iconst X0 hx (hb hby at_71) (v := 1) rfl ?_
    refine o_iadd X0 hx (hb hby at_72) ?_
    refine o_iloadN X0 hx (hb hby at_73) rfl ?_
    refine o_bipush X0 hx (hb hby at_74) (v := 6) rfl ?_
    refine o_iushr X0 hx (hb hby at_76) ?_
    refine o_iconst X0 hx (hb hby at_77) (v := 3) rfl ?_
    refine o_iand X0 hx (hb hby at_78) ?_
    refine o_iadd X0 hx (hb hby at_79) ?_
    refine o_istore X0 hx (hb hby at_80) (L' := #[vi p1, vi p2, vi p3, vi b, vi (p2 &&& (3 : Int32)), vi l0, vi l1, vi l2, vi (p3 &&& (3 : Int32)), vi k0, vi k1, vi ((k1 + (1 : Int32)) + (((p3.toUInt32 >>> ((6 : Int32) &&& 31).toUInt32).toInt32) &&& (3 : Int32))), .unset, .unset, .unset, .unset]) rfl ?_
    exact k_
  obtain ⟨k2, h_k2⟩ : ∃ z : Int32, z = ((k1 + (1 : Int32)) + (((p3.toUInt32 >>> ((6 : Int32) &&& 31).toUInt32).toInt32) &&& (3 : Int32))) := ⟨_, rfl⟩
  have go14 : Go p e below s₁ F0 s₁ (mkF m 82 #[vi p1, vi p2, vi p3, vi b, vi (p2 &&& (3 : Int32)), vi l0, vi l1, vi l2, vi (p3 &&& (3 : Int32)), vi k0, vi k1, vi k2, .unset, .unset, .unset, .unset] []) := by rw [h_k2]; exact go13
  have hcs15 : (p2 &&& (3 : Int32)) = (0 : Int32) ∨ (p2 &&& (3 : Int32)) = (1 : Int32) ∨ (p2 &&& (3 : Int32)) = (2 : Int32) ∨ (p2 &&& (3 : Int32)) = (3 : Int32) := own_4 _
  rcases hcs15 with hcs15 | hcs15 | hcs15 | hcs15
  · skip
    have go16 : Go p e below s₁ F0 s₁ (mkF m 82 #[vi p1, vi p2, vi p3, vi b, vi (0 : Int32), vi l0, vi l1, vi l2, vi (p3 &&& (3 : Int32)), vi k0, vi k1, vi k2, .unset, .unset, .unset, .unset] []) := by rw [hcs15] at go14; exact go14
    have go17 : Go p e below s₁ F0 s₁ (mkF m 90 #[vi p1, vi p2, vi p3, vi b, vi (0 : Int32), vi l0, vi l1, vi l2, vi (p3 &&& (3 : Int32)), vi k0, vi k1, vi k2, .unset, .unset, .unset, .unset] [(.int l2), (.int l1), (.int l0), (.int (0 : Int32))]) := by
      intro t_ k_
      refine go16 t_ ?_
      refine o_iload X0 hx (hb hby at_82) rfl ?_
      refine o_iload X0 hx (hb hby at_84) rfl ?_
      refine o_iload X0 hx (hb hby at_86) rfl ?_
      refine o_iload X0 hx (hb hby at_88) rfl ?_
      exact k_
    obtain ⟨_, _, ⟨T18, L18, k18, n18⟩, -, X18, ⟨Lc18, hQ18, l18, y18, z18⟩, st18⟩ := Jvm.LawKit.callS X0 hx (y := y_1) hown (mvT hZ (own_w hw 0 rfl)) (mvT hZ (own_w hw 1 rfl)) (mvT hZ (own_w hw 2 rfl)) (mvT hZ (own_w hw 3 rfl)) (by decide) (backOf (W := 0) (rm1_0 l Z a0 hw [] l0 l1 l2 h0 n0 Z0 ) hZ (own_w hw 3 rfl) (own_w hw 2 rfl) (by decide) (by decide)) (g := (mkF m 90 #[vi p1, vi p2, vi p3, vi b, vi (0 : Int32), vi l0, vi l1, vi l2, vi (p3 &&& (3 : Int32)), vi k0, vi k1, vi k2, .unset, .unset, .unset, .unset] [(.int l2), (.int l1), (.int l0), (.int (0 : Int32))])) rfl (by rw [hml]; rfl) (argsL := [(.int (0 : Int32)), (.int l0), (.int l1), (.int l2)]) (rest := []) (lenOf pd0_0 rfl) rfl (by show 2 * 0 + _ ≤ _; exact Nat.le_of_eq rfl) (hb hby at_90) (fun _ _ => ⟨rfl, e0, (by decide : 0 + 1 ≤ _), (by decide : 0 + 0 ≤ _)⟩)
    dsimp only [Pt.U, Pt.locs, Pt.cells, Pt.slots] at X18 l18 y18 z18 st18 hQ18
    subst l18 y18 z18
    obtain ⟨b_18, kb_18, rfl, Nq18, Kc18, hb_18, V_18⟩ := hQ18
    have N18 := Fr.app N0 Nq18
    have g_b_18 : n0 ≤ b_18 := Nat.le_trans Z0 hb_18
    have Z19 : n0 ≤ T18.heap.size := Nat.le_trans Z0 Kc18.1
    have go20 : Go p e below s₁ F0 T18 (mkF m 93 #[vi p1, vi p2, vi p3, vi b, vi (0 : Int32), vi l0, vi l1, vi l2, vi (p3 &&& (3 : Int32)), vi k0, vi k1, vi k2, .unset, .unset, .unset, .unset] [(.ref b_18)]) := fun t_ k_ => go17 t_ (st18 t_ k_)
    have go21 : Go p e below s₁ F0 T18 (mkF m 95 #[vi p1, vi p2, vi p3, vi b, vi (0 : Int32), vi l0, vi l1, vi l2, vi (p3 &&& (3 : Int32)), vi k0, vi k1, vi k2, vr b_18, .unset, .unset, .unset] []) := by
      intro t_ k_
      refine go20 t_ ?_
      refine o_astore X18 hx (hb hby at_93) rfl (L' := #[vi p1, vi p2, vi p3, vi b, vi (0 : Int32), vi l0, vi l1, vi l2, vi (p3 &&& (3 : Int32)), vi k0, vi k1, vi k2, vr b_18, .unset, .unset, .unset]) rfl ?_
      exact k_
    have hcs22 : (p3 &&& (3 : Int32)) = (0 : Int32) ∨ (p3 &&& (3 : Int32)) = (1 : Int32) ∨ (p3 &&& (3 : Int32)) = (2 : Int32) ∨ (p3 &&& (3 : Int32)) = (3 : Int32) := own_4 _
    rcases hcs22 with hcs22 | hcs22 | hcs22 | hcs22
    · skip
      have go23 : Go p e below s₁ F0 T18 (mkF m 95 #[vi p1, vi p2, vi p3, vi b, vi (0 : Int32), vi l0, vi l1, vi l2, vi (0 : Int32), vi k0, vi k1, vi k2, vr b_18, .unset, .unset, .unset] []) := by rw [hcs22] at go21; exact go21
      have go24 : Go p e below s₁ F0 T18 (mkF m 103 #[vi p1, vi p2, vi p3, vi b, vi (0 : Int32), vi l0, vi l1, vi l2, vi (0 : Int32), vi k0, vi k1, vi k2, vr b_18, .unset, .unset, .unset] [(.int k2), (.int k1), (.int k0), (.int (0 : Int32))]) := by
        intro t_ k_
        refine go23 t_ ?_
        refine o_iload X18 hx (hb hby at_95) rfl ?_
        refine o_iload X18 hx (hb hby at_97) rfl ?_
        refine o_iload X18 hx (hb hby at_99) rfl ?_
        refine o_iload X18 hx (hb hby at_101) rfl ?_
        exact k_
      obtain ⟨_, _, ⟨T25, L25, k25, n25⟩, -, X25, ⟨Lc25, hQ25, l25, y25, z25⟩, st25⟩ := Jvm.LawKit.callS X18 hx (y := y_1) hown (mvT hZ (own_w hw 0 rfl)) (mvT hZ (own_w hw 1 rfl)) (mvT hZ (own_w hw 2 rfl)) (mvT hZ (own_w hw 3 rfl)) (by decide) (backOf (W := 0) (rm1_0 l Z a0 hw [] k0 k1 k2 (T18.heap) n0 Z19 ) hZ (own_w hw 3 rfl) (own_w hw 2 rfl) (by decide) (by decide)) (g := (mkF m 103 #[vi p1, vi p2, vi p3, vi b, vi (0 : Int32), vi l0, vi l1, vi l2, vi (0 : Int32), vi k0, vi k1, vi k2, vr b_18, .unset, .unset, .unset] [(.int k2), (.int k1), (.int k0), (.int (0 : Int32))])) rfl (by rw [hml]; rfl) (argsL := [(.int (0 : Int32)), (.int k0), (.int k1), (.int k2)]) (rest := []) (lenOf pd0_0 rfl) rfl (by show 2 * 0 + _ ≤ _; exact Nat.le_of_eq rfl) (hb hby at_103) (fun _ _ => ⟨rfl, rfl, (by decide : 1 + 1 ≤ _), (by decide : 0 + 0 ≤ _)⟩)
      dsimp only [Pt.U, Pt.locs, Pt.cells, Pt.slots] at X25 l25 y25 z25 st25 hQ25
      subst l25 y25 z25
      obtain ⟨b_25, kb_25, rfl, Nq25, Kc25, hb_25, V_25⟩ := hQ25
      have N25 := Fr.app N18 Nq25
      have ne26 : b_18 ≠ b_25 := Nat.ne_of_lt (Nat.lt_of_lt_of_le V_18.lt hb_25)
      have g_b_25 : n0 ≤ b_25 := Nat.le_trans Z19 hb_25
      have Z27 : n0 ≤ T25.heap.size := Nat.le_trans Z19 Kc25.1
      have go28 : Go p e below s₁ F0 T25 (mkF m 106 #[vi p1, vi p2, vi p3, vi b, vi (0 : Int32), vi l0, vi l1, vi l2, vi (0 : Int32), vi k0, vi k1, vi k2, vr b_18, .unset, .unset, .unset] [(.ref b_25)]) := fun t_ k_ => go24 t_ (st25 t_ k_)
      have go29 : Go p e below s₁ F0 T25 (mkF m 108 #[vi p1, vi p2, vi p3, vi b, vi (0 : Int32), vi l0, vi l1, vi l2, vi (0 : Int32), vi k0, vi k1, vi k2, vr b_18, vr b_25, .unset, .unset] []) := by
        intro t_ k_
        refine go28 t_ ?_
        refine o_astore X25 hx (hb hby at_106) rfl (L' := #[vi p1, vi p2, vi p3, vi b, vi (0 : Int32), vi l0, vi l1, vi l2, vi (0 : Int32), vi k0, vi k1, vi k2, vr b_18, vr b_25, .unset, .unset]) rfl ?_
        exact k_
      obtain ⟨T30, h30, X30, e30, E30, A30, D30, -, st30⟩ := newO X25 hx hZ hown (own_w hw 5 rfl) (own_w hw 6 rfl) (own_w hw 7 rfl) rfl (g := (mkF m 108 #[vi p1, vi p2, vi p3, vi b, vi (0 : Int32), vi l0, vi l1, vi l2, vi (0 : Int32), vi k0, vi k1, vi k2, vr b_18, vr b_25, .unset, .unset] [])) rfl (hb hby at_108) (by decide) (by decide)
      obtain ⟨b30, gz30⟩ : ∃ z, z = T25.heap.size := ⟨_, rfl⟩
      rw [← gz30] at A30 D30 st30
      have F31 : Arv Z T25.heap b_18 kb_18 .int (0 : Int32) [] (.int (0 : Int32)) := (V_18.keep Kc25 nin0)
      have ne32 : b_18 ≠ b30 := Nat.ne_of_lt (Nat.lt_of_lt_of_le F31.lt (Nat.le_of_eq gz30.symm))
      have ne33 : b_25 ≠ b30 := Nat.ne_of_lt (Nat.lt_of_lt_of_le V_25.lt (Nat.le_of_eq gz30.symm))
      have g_b30 : n0 ≤ b30 := Nat.le_trans Z27 (Nat.le_of_eq gz30.symm)
      have Z34 : n0 ≤ h30.size := Nat.le_trans Z27 E30.1
      have F35 : Fld Z h30 b30 c_0 "id" "J" (.long (0 : Int64)) := D30 (Or.inr (own_w hw 21 rfl)) (ty := .long) (by decide)
      have F36 : Fld Z h30 b30 c_0 "power" "J" (.long (0 : Int64)) := D30 (Or.inr (own_w hw 23 rfl)) (ty := .long) (by decide)
      have F37 : Fld Z h30 b30 c_0 "units" "[I" .null := D30 (Or.inr (own_w hw 25 rfl)) (ty := (.array .int)) (by decide)
      have F38 : Fld Z h30 b30 c_0 "licences" "[I" .null := D30 (Or.inr (own_w hw 27 rfl)) (ty := (.array .int)) (by decide)
      have go39 : Go p e below s₁ F0 T30 (mkF m 111 #[vi p1, vi p2, vi p3, vi b, vi (0 : Int32), vi l0, vi l1, vi l2, vi (0 : Int32), vi k0, vi k1, vi k2, vr b_18, vr b_25, .unset, .unset] [(.ref b30)]) := fun t_ k_ => go29 t_ (st30 t_ k_)
      have go40 : Go p e below s₁ F0 T30 (mkF m 117 #[vi p1, vi p2, vi p3, vi b, vi (0 : Int32), vi l0, vi l1, vi l2, vi (0 : Int32), vi k0, vi k1, vi k2, vr b_18, vr b_25, .unset, .unset] [(.int (0 : Int32)), (.long (1000000 : Int64)), (.long (0 : Int64)), (.ref b30), (.ref b30)]) := by
        intro t_ k_
        refine go39 t_ ?_
        refine o_dup X30 hx (hb hby at_111) rfl ?_
        refine o_lconst X30 hx (hb hby at_112) (v := 0) rfl ?_
        refine o_ldc2 X30 hx hown (mvT hZ (own_w hw 8 rfl)) (hb hby at_113) ?_
        refine o_iconst X30 hx (hb hby at_116) (v := 0) rfl ?_
        exact k_
      obtain ⟨T41, h41, k41, X41, e41, E41, A41, st41⟩ := newP X30 hx hZ (own_w hw 4 rfl) e30 (g := (mkF m 117 #[vi p1, vi p2, vi p3, vi b, vi (0 : Int32), vi l0, vi l1, vi l2, vi (0 : Int32), vi k0, vi k1, vi k2, vr b_18, vr b_25, .unset, .unset] [(.int (0 : Int32)), (.long (1000000 : Int64)), (.long (0 : Int64)), (.ref b30), (.ref b30)])) rfl (hb hby at_117) rfl (by decide) (cap := 0) (by decide) (by decide) (by decide) (by decide)
      obtain ⟨b41, gz41⟩ : ∃ z, z = h30.size := ⟨_, rfl⟩
      rw [← gz41] at A41 st41
      have F42 : Arv Z h30 b_18 kb_18 .int (0 : Int32) [] (.int (0 : Int32)) := (F31.ext E30)
      have ne43 : b_18 ≠ b41 := Nat.ne_of_lt (Nat.lt_of_lt_of_le F42.lt (Nat.le_of_eq gz41.symm))
      have F44 : Arv Z h30 b_25 kb_25 .int (0 : Int32) [] (.int (0 : Int32)) := (V_25.ext E30)
      have ne45 : b_25 ≠ b41 := Nat.ne_of_lt (Nat.lt_of_lt_of_le F44.lt (Nat.le_of_eq gz41.symm))
      have ne46 : b30 ≠ b41 := Nat.ne_of_lt (Nat.lt_of_lt_of_le A30.lt (Nat.le_of_eq gz41.symm))
      have g_b41 : n0 ≤ b41 := Nat.le_trans Z34 (Nat.le_of_eq gz41.symm)
      have Z47 : n0 ≤ h41.size := Nat.le_trans Z34 E41.1
      have V41 : Arv Z h41 b41 k41 .int (0 : Int32) [] (.int (0 : Int32)) := (Arv.new A41 (by decide)).pad (pad_rep [] (.int (0 : Int32)) 0)
      have go48 : Go p e below s₁ F0 T41 (mkF m 119 #[vi p1, vi p2, vi p3, vi b, vi (0 : Int32), vi l0, vi l1, vi l2, vi (0 : Int32), vi k0, vi k1, vi k2, vr b_18, vr b_25, .unset, .unset] [(.ref b41), (.long (1000000 : Int64)), (.long (0 : Int64)), (.ref b30), (.ref b30)]) := fun t_ k_ => go40 t_ (st41 t_ k_)
      have F49 : Exa Z h41 b30 c_0 := (A30.ext E41)
      have F50 : Fld Z h41 b30 c_0 "id" "J" (.long (0 : Int64)) := (F35.ext E41)
      have F51 : Fld Z h41 b30 c_0 "power" "J" (.long (0 : Int64)) := (F36.ext E41)
      have F52 : Fld Z h41 b30 c_0 "units" "[I" .null := (F37.ext E41)
      have F53 : Fld Z h41 b30 c_0 "licences" "[I" .null := (F38.ext E41)
      have go54 : Go p e below s₁ F0 T41 (mkF m 121 #[vi p1, vi p2, vi p3, vi b, vi (0 : Int32), vi l0, vi l1, vi l2, vi (0 : Int32), vi k0, vi k1, vi k2, vr b_18, vr b_25, .unset, .unset] [(.ref b_18), (.ref b41), (.long (1000000 : Int64)), (.long (0 : Int64)), (.ref b30), (.ref b30)]) := by
        intro t_ k_
        refine go48 t_ ?_
        refine o_aload X41 hx (hb hby at_119) rfl rfl ?_
        exact k_
      obtain ⟨_, _, ⟨T55, L55, k55, n55⟩, -, X55, ⟨Lc55, hQ55, l55, y55, z55⟩, st55⟩ := X41.specialBack hx (y := y_2) rfl hown (mvT hZ (own_w hw 9 rfl)) (mvT hZ (own_w hw 10 rfl)) (mvT hZ (own_w hw 11 rfl)) (by decide) (backOf (W := 1) (rm2 l Z a0 hw [] b30 (0 : Int64) (1000000 : Int64) b41 b_18 h41 n0 Z47 F49 F50 F51 F52 F53 g_b30) hZ (own_w hw 11 rfl) (own_w hw 7 rfl) (by decide) (by decide)) (g := (mkF m 121 #[vi p1, vi p2, vi p3, vi b, vi (0 : Int32), vi l0, vi l1, vi l2, vi (0 : Int32), vi k0, vi k1, vi k2, vr b_18, vr b_25, .unset, .unset] [(.ref b_18), (.ref b41), (.long (1000000 : Int64)), (.long (0 : Int64)), (.ref b30), (.ref b30)])) rfl (by rw [hml]; rfl) (Steps.refl _) (a := b30) (argsL := [(.long (0 : Int64)), (.long (1000000 : Int64)), (.ref b41), (.ref b_18)]) (rest := [(.ref b30)]) (lenOf pd0_1 rfl) rfl (by show 2 * 0 + _ ≤ _; exact Nat.le_of_eq rfl) (hb hby at_121) (fun _ _ => ⟨rfl, e41, (by decide : 4 + 0 ≤ _), (by decide : 4 + 0 ≤ _)⟩)
      dsimp only [Pt.U, Pt.locs, Pt.cells, Pt.slots] at X55 l55 y55 z55 st55 hQ55
      subst l55 y55 z55
      obtain ⟨rfl, Nq55, Kc55, F4_55⟩ := hQ55
      have N55 := Fr.app N25 Nq55
      have Z56 : n0 ≤ T55.heap.size := Nat.le_trans Z47 Kc55.1
      have go57 : Go p e below s₁ F0 T55 (mkF m 124 #[vi p1, vi p2, vi p3, vi b, vi (0 : Int32), vi l0, vi l1, vi l2, vi (0 : Int32), vi k0, vi k1, vi k2, vr b_18, vr b_25, .unset, .unset] [(.ref b30)]) := fun t_ k_ => go54 t_ (st55.trans k_)
      have F58 : Arv Z T55.heap b_18 kb_18 .int (0 : Int32) [] (.int (0 : Int32)) := ((F42.ext E41).keep Kc55 (ninS ne32 nin0))
      have F59 : Arv Z T55.heap b_25 kb_25 .int (0 : Int32) [] (.int (0 : Int32)) := ((F44.ext E41).keep Kc55 (ninS ne33 nin0))
      have go60 : Go p e below s₁ F0 T55 (mkF m 203 #[vi p1, vi p2, vi p3, vi b, vi (0 : Int32), vi l0, vi l1, vi l2, vi (0 : Int32), vi k0, vi k1, vi k2, vr b_18, vr b_25, vr b30, vi (1 : Int32)] [(.ref b_25), (.ref b30)]) := by
        intro t_ k_
        refine go57 t_ ?_
        refine o_astore X55 hx (hb hby at_124) rfl (L' := #[vi p1, vi p2, vi p3, vi b, vi (0 : Int32), vi l0, vi l1, vi l2, vi (0 : Int32), vi k0, vi k1, vi k2, vr b_18, vr b_25, vr b30, .unset]) rfl ?_
        refine o_iload X55 hx (hb hby at_126) rfl ?_
        refine o_iconst X55 hx (hb hby at_128) (v := 1) rfl ?_
        refine o_icmpYes X55 hx (hb hby at_129) (pc' := 148) rfl (by decide) (tlt (by decide : (0 : Int32) < (1 : Int32))).1 ?_
        refine o_iload X55 hx (hb hby at_148) rfl ?_
        refine o_iconst X55 hx (hb hby at_150) (v := 2) rfl ?_
        refine o_icmpYes X55 hx (hb hby at_151) (pc' := 170) rfl (by decide) (tlt (by decide : (0 : Int32) < (2 : Int32))).1 ?_
        refine o_iload X55 hx (hb hby at_170) rfl ?_
        refine o_iconst X55 hx (hb hby at_172) (v := 3) rfl ?_
        refine o_icmpYes X55 hx (hb hby at_173) (pc' := 192) rfl (by decide) (tlt (by decide : (0 : Int32) < (3 : Int32))).1 ?_
        refine o_iconst X55 hx (hb hby at_192) (v := 1) rfl ?_
        refine o_goto X55 hx (hb hby at_193) (pc' := 197) rfl (by decide) ?_
        refine o_istore X55 hx (hb hby at_197) (L' := #[vi p1, vi p2, vi p3, vi b, vi (0 : Int32), vi l0, vi l1, vi l2, vi (0 : Int32), vi k0, vi k1, vi k2, vr b_18, vr b_25, vr b30, vi (1 : Int32)]) rfl ?_
        refine o_aload X55 hx (hb hby at_199) rfl rfl ?_
        refine o_aload X55 hx (hb hby at_201) rfl rfl ?_
        exact k_
      have F62 : Exa Z T55.heap b30 c_0 := (F49.keep Kc55)
      obtain ⟨cq61, kq61, q61a, q61b, q61c⟩ := isOf hZ rfl F62
      obtain ⟨_, _, ⟨T61, L61, k61, n61⟩, -, X61, ⟨Lc61, hQ61, l61, y61, z61⟩, st61⟩ := X55.virtualBack hx (y := y_4) (z := y_4) hown (mvT hZ (own_w hw 31 rfl)) (mvT hZ (own_w hw 32 rfl)) (notFace_of_selects (args := #[]) (mvT hZ (own_w hw 34 rfl))) (mvT hZ (own_w hw 34 rfl)) (mvT hZ (own_w hw 33 rfl)) (by decide) (backOf (W := 0) (rm6_0_0 l Z a0 hw [] b30 b_25 b_18 kb_18 kb_25 (T55.heap) n0 Z56 F4_55 F58 F59) hZ (own_w hw 35 rfl) (own_w hw 7 rfl) (by decide) (by decide)) q61a q61c (g := (mkF m 203 #[vi p1, vi p2, vi p3, vi b, vi (0 : Int32), vi l0, vi l1, vi l2, vi (0 : Int32), vi k0, vi k1, vi k2, vr b_18, vr b_25, vr b30, vi (1 : Int32)] [(.ref b_25), (.ref b30)])) rfl (by rw [hml]; rfl) (Steps.refl _) (argsL := [(.ref b_25)]) (rest := []) (lenOf pd0_2 rfl) rfl (by show 2 * 0 + _ ≤ _; exact Nat.le_of_eq rfl) (hb hby at_203) (fun _ _ => ⟨rfl, rfl, (by decide : 4 + 0 ≤ _), (by decide : 4 + 0 ≤ _)⟩)
      dsimp only [Pt.U, Pt.locs, Pt.cells, Pt.slots] at X61 l61 y61 z61 st61 hQ61
      subst l61 y61 z61
      obtain ⟨rfl, Nq61, eh61⟩ := hQ61
      have N61 := Fr.app N55 Nq61
      have go63 : Go p e below s₁ F0 T61 (mkF m 206 #[vi p1, vi p2, vi p3, vi b, vi (0 : Int32), vi l0, vi l1, vi l2, vi (0 : Int32), vi k0, vi k1, vi k2, vr b_18, vr b_25, vr b30, vi (1 : Int32)] [(.int (f6_0_0 ))]) := fun t_ k_ => go60 t_ (st61.trans k_)
      have go65 : Go p e below s₁ F0 T61 (mkF m 208 #[vi p1, vi p2, vi p3, vi b, vi (0 : Int32), vi l0, vi l1, vi l2, vi (0 : Int32), vi k0, vi k1, vi k2, vr b_18, vr b_25, vr b30, vi (1 : Int32)] [(.int (1 : Int32)), (.int (f6_0_0 ))]) := by
        intro t_ k_
        refine go63 t_ ?_
        refine o_iload X61 hx (hb hby at_206) rfl ?_
        exact k_
      have hd64 : (f6_0_0 ) = (1 : Int32) := own_yes_0_0 l0 l1 l2 k0 k1 k2  
      have go66 : Go p e below s₁ F0 T61 (mkF m 216 #[vi p1, vi p2, vi p3, vi b, vi (0 : Int32), vi l0, vi l1, vi l2, vi (0 : Int32), vi k0, vi k1, vi k2, vr b_18, vr b_25, vr b30, vi (1 : Int32)] [(.int (1 : Int32))]) := by
        intro t_ k_
        refine go65 t_ ?_
        refine o_icmpNo X61 hx (hb hby at_208) (teq hd64).2 ?_
        refine o_iconst X61 hx (hb hby at_211) (v := 1) rfl ?_
        refine o_goto X61 hx (hb hby at_212) (pc' := 216) rfl (by decide) ?_
        exact k_
      obtain ⟨fs, hr, hrun, hended, hW, hsame⟩ := X61.leave (v := some (.int (1 : Int32))) (fun h => by rw [Bd.returns] at h; cases h)
      refine ⟨_, _, pre0 _ (go66 _ ?_), hrun, hended, _, _, rfl, ?_, ⟨_, rfl⟩, hW, hsame.mono (by decide) (by decide)⟩
      · skip
        exact retN X61 hx (t := .boolean) Bd.returns (by simp) (hb hby at_216) hr
      · show Q0 Z p1 p2 p3 h0 n0 _ T61.heap _
        rw [eh61]
        exact ⟨rfl, N61⟩
    · skip
      have go67 : Go p e below s₁ F0 T18 (mkF m 95 #[vi p1, vi p2, vi p3, vi b, vi (0 : Int32), vi l0, vi l1, vi l2, vi (1 : Int32), vi k0, vi k1, vi k2, vr b_18, .unset, .unset, .unset] []) := by rw [hcs22] at go21; exact go21
      have go68 : Go p e below s₁ F0 T18 (mkF m 103 #[vi p1, vi p2, vi p3, vi b, vi (0 : Int32), vi l0, vi l1, vi l2, vi (1 : Int32), vi k0, vi k1, vi k2, vr b_18, .unset, .unset, .unset] [(.int k2), (.int k1), (.int k0), (.int (1 : Int32))]) := by
        intro t_ k_
        refine go67 t_ ?_
        refine o_iload X18 hx (hb hby at_95) rfl ?_
        refine o_iload X18 hx (hb hby at_97) rfl ?_
        refine o_iload X18 hx (hb hby at_99) rfl ?_
        refine o_iload X18 hx (hb hby at_101) rfl ?_
        exact k_
      obtain ⟨_, _, ⟨T69, L69, k69, n69⟩, -, X69, ⟨Lc69, hQ69, l69, y69, z69⟩, st69⟩ := Jvm.LawKit.callS X18 hx (y := y_1) hown (mvT hZ (own_w hw 0 rfl)) (mvT hZ (own_w hw 1 rfl)) (mvT hZ (own_w hw 2 rfl)) (mvT hZ (own_w hw 3 rfl)) (by decide) (backOf (W := 0) (rm1_1 l Z a0 hw [] k0 k1 k2 (T18.heap) n0 Z19 ) hZ (own_w hw 3 rfl) (own_w hw 2 rfl) (by decide) (by decide)) (g := (mkF m 103 #[vi p1, vi p2, vi p3, vi b, vi (0 : Int32), vi l0, vi l1, vi l2, vi (1 : Int32), vi k0, vi k1, vi k2, vr b_18, .unset, .unset, .unset] [(.int k2), (.int k1), (.int k0), (.int (1 : Int32))])) rfl (by rw [hml]; rfl) (argsL := [(.int (1 : Int32)), (.int k0), (.int k1), (.int k2)]) (rest := []) (lenOf pd0_0 rfl) rfl (by show 2 * 0 + _ ≤ _; exact Nat.le_of_eq rfl) (hb hby at_103) (fun _ _ => ⟨rfl, rfl, (by decide : 1 + 1 ≤ _), (by decide : 0 + 1 ≤ _)⟩)
      dsimp only [Pt.U, Pt.locs, Pt.cells, Pt.slots] at X69 l69 y69 z69 st69 hQ69
      subst l69 y69 z69
      obtain ⟨b_69, kb_69, rfl, Nq69, Kc69, hb_69, V_69⟩ := hQ69
      have N69 := Fr.app N18 Nq69
      have ne70 : b_18 ≠ b_69 := Nat.ne_of_lt (Nat.lt_of_lt_of_le V_18.lt hb_69)
      have g_b_69 : n0 ≤ b_69 := Nat.le_trans Z19 hb_69
      have Z71 : n0 ≤ T69.heap.size := Nat.le_trans Z19 Kc69.1
      have go72 : Go p e below s₁ F0 T69 (mkF m 106 #[vi p1, vi p2, vi p3, vi b, vi (0 : Int32), vi l0, vi l1, vi l2, vi (1 : Int32), vi k0, vi k1, vi k2, vr b_18, .unset, .unset, .unset] [(.ref b_69)]) := fun t_ k_ => go68 t_ (st69 t_ k_)
      have go73 : Go p e below s₁ F0 T69 (mkF m 108 #[vi p1, vi p2, vi p3, vi b, vi (0 : Int32), vi l0, vi l1, vi l2, vi (1 : Int32), vi k0, vi k1, vi k2, vr b_18, vr b_69, .unset, .unset] []) := by
        intro t_ k_
        refine go72 t_ ?_
        refine o_astore X69 hx (hb hby at_106) rfl (L' := #[vi p1, vi p2, vi p3, vi b, vi (0 : Int32), vi l0, vi l1, vi l2, vi (1 : Int32), vi k0, vi k1, vi k2, vr b_18, vr b_69, .unset, .unset]) rfl ?_
        exact k_
      obtain ⟨T74, h74, X74, e74, E74, A74, D74, -, st74⟩ := newO X69 hx hZ hown (own_w hw 5 rfl) (own_w hw 6 rfl) (own_w hw 7 rfl) rfl (g := (mkF m 108 #[vi p1, vi p2, vi p3, vi b, vi (0 : Int32), vi l0, vi l1, vi l2, vi (1 : Int32), vi k0, vi k1, vi k2, vr b_18, vr b_69, .unset, .unset] [])) rfl (hb hby at_108) (by decide) (by decide)
      obtain ⟨b74, gz74⟩ : ∃ z, z = T69.heap.size := ⟨_, rfl⟩
      rw [← gz74] at A74 D74 st74
      have F75 : Arv Z T69.heap b_18 kb_18 .int (0 : Int32) [] (.int (0 : Int32)) := (V_18.keep Kc69 nin0)
      have ne76 : b_18 ≠ b74 := Nat.ne_of_lt (Nat.lt_of_lt_of_le F75.lt (Nat.le_of_eq gz74.symm))
      have ne77 : b_69 ≠ b74 := Nat.ne_of_lt (Nat.lt_of_lt_of_le V_69.lt (Nat.le_of_eq gz74.symm))
      have g_b74 : n0 ≤ b74 := Nat.le_trans Z71 (Nat.le_of_eq gz74.symm)
      have Z78 : n0 ≤ h74.size := Nat.le_trans Z71 E74.1
      have F79 : Fld Z h74 b74 c_0 "id" "J" (.long (0 : Int64)) := D74 (Or.inr (own_w hw 21 rfl)) (ty := .long) (by decide)
      have F80 : Fld Z h74 b74 c_0 "power" "J" (.long (0 : Int64)) := D74 (Or.inr (own_w hw 23 rfl)) (ty := .long) (by decide)
      have F81 : Fld Z h74 b74 c_0 "units" "[I" .null := D74 (Or.inr (own_w hw 25 rfl)) (ty := (.array .int)) (by decide)
      have F82 : Fld Z h74 b74 c_0 "licences" "[I" .null := D74 (Or.inr (own_w hw 27 rfl)) (ty := (.array .int)) (by decide)
      have go83 : Go p e below s₁ F0 T74 (mkF m 111 #[vi p1, vi p2, vi p3, vi b, vi (0 : Int32), vi l0, vi l1, vi l2, vi (1 : Int32), vi k0, vi k1, vi k2, vr b_18, vr b_69, .unset, .unset] [(.ref b74)]) := fun t_ k_ => go73 t_ (st74 t_ k_)
      have go84 : Go p e below s₁ F0 T74 (mkF m 117 #[vi p1, vi p2, vi p3, vi b, vi (0 : Int32), vi l0, vi l1, vi l2, vi (1 : Int32), vi k0, vi k1, vi k2, vr b_18, vr b_69, .unset, .unset] [(.int (0 : Int32)), (.long (1000000 : Int64)), (.long (0 : Int64)), (.ref b74), (.ref b74)]) := by
        intro t_ k_
        refine go83 t_ ?_
        refine o_dup X74 hx (hb hby at_111) rfl ?_
        refine o_lconst X74 hx (hb hby at_112) (v := 0) rfl ?_
        refine o_ldc2 X74 hx hown (mvT hZ (own_w hw 8 rfl)) (hb hby at_113) ?_
        refine o_iconst X74 hx (hb hby at_116) (v := 0) rfl ?_
        exact k_
      obtain ⟨T85, h85, k85, X85, e85, E85, A85, st85⟩ := newP X74 hx hZ (own_w hw 4 rfl) e74 (g := (mkF m 117 #[vi p1, vi p2, vi p3, vi b, vi (0 : Int32), vi l0, vi l1, vi l2, vi (1 : Int32), vi k0, vi k1, vi k2, vr b_18, vr b_69, .unset, .unset] [(.int (0 : Int32)), (.long (1000000 : Int64)), (.long (0 : Int64)), (.ref b74), (.ref b74)])) rfl (hb hby at_117) rfl (by decide) (cap := 0) (by decide) (by decide) (by decide) (by decide)
      obtain ⟨b85, gz85⟩ : ∃ z, z = h74.size := ⟨_, rfl⟩
      rw [← gz85] at A85 st85
      have F86 : Arv Z h74 b_18 kb_18 .int (0 : Int32) [] (.int (0 : Int32)) := (F75.ext E74)
      have ne87 : b_18 ≠ b85 := Nat.ne_of_lt (Nat.lt_of_lt_of_le F86.lt (Nat.le_of_eq gz85.symm))
      have F88 : Arv Z h74 b_69 kb_69 .int (1 : Int32) [(.int k0)] (.int (0 : Int32)) := (V_69.ext E74)
      have ne89 : b_69 ≠ b85 := Nat.ne_of_lt (Nat.lt_of_lt_of_le F88.lt (Nat.le_of_eq gz85.symm))
      have ne90 : b74 ≠ b85 := Nat.ne_of_lt (Nat.lt_of_lt_of_le A74.lt (Nat.le_of_eq gz85.symm))
      have g_b85 : n0 ≤ b85 := Nat.le_trans Z78 (Nat.le_of_eq gz85.symm)
      have Z91 : n0 ≤ h85.size := Nat.le_trans Z78 E85.1
      have V85 : Arv Z h85 b85 k85 .int (0 : Int32) [] (.int (0 : Int32)) := (Arv.new A85 (by decide)).pad (pad_rep [] (.int (0 : Int32)) 0)
      have go92 : Go p e below s₁ F0 T85 (mkF m 119 #[vi p1, vi p2, vi p3, vi b, vi (0 : Int32), vi l0, vi l1, vi l2, vi (1 : Int32), vi k0, vi k1, vi k2, vr b_18, vr b_69, .unset, .unset] [(.ref b85), (.long (1000000 : Int64)), (.long (0 : Int64)), (.ref b74), (.ref b74)]) := fun t_ k_ => go84 t_ (st85 t_ k_)
      have F93 : Exa Z h85 b74 c_0 := (A74.ext E85)
      have F94 : Fld Z h85 b74 c_0 "id" "J" (.long (0 : Int64)) := (F79.ext E85)
      have F95 : Fld Z h85 b74 c_0 "power" "J" (.long (0 : Int64)) := (F80.ext E85)
      have F96 : Fld Z h85 b74 c_0 "units" "[I" .null := (F81.ext E85)
      have F97 : Fld Z h85 b74 c_0 "licences" "[I" .null := (F82.ext E85)
      have go98 : Go p e below s₁ F0 T85 (mkF m 121 #[vi p1, vi p2, vi p3, vi b, vi (0 : Int32), vi l0, vi l1, vi l2, vi (1 : Int32), vi k0, vi k1, vi k2, vr b_18, vr b_69, .unset, .unset] [(.ref b_18), (.ref b85), (.long (1000000 : Int64)), (.long (0 : Int64)), (.ref b74), (.ref b74)]) := by
        intro t_ k_
        refine go92 t_ ?_
        refine o_aload X85 hx (hb hby at_119) rfl rfl ?_
        exact k_
      obtain ⟨_, _, ⟨T99, L99, k99, n99⟩, -, X99, ⟨Lc99, hQ99, l99, y99, z99⟩, st99⟩ := X85.specialBack hx (y := y_2) rfl hown (mvT hZ (own_w hw 9 rfl)) (mvT hZ (own_w hw 10 rfl)) (mvT hZ (own_w hw 11 rfl)) (by decide) (backOf (W := 1) (rm2 l Z a0 hw [] b74 (0 : Int64) (1000000 : Int64) b85 b_18 h85 n0 Z91 F93 F94 F95 F96 F97 g_b74) hZ (own_w hw 11 rfl) (own_w hw 7 rfl) (by decide) (by decide)) (g := (mkF m 121 #[vi p1, vi p2, vi p3, vi b, vi (0 : Int32), vi l0, vi l1, vi l2, vi (1 : Int32), vi k0, vi k1, vi k2, vr b_18, vr b_69, .unset, .unset] [(.ref b_18), (.ref b85), (.long (1000000 : Int64)), (.long (0 : Int64)), (.ref b74), (.ref b74)])) rfl (by rw [hml]; rfl) (Steps.refl _) (a := b74) (argsL := [(.long (0 : Int64)), (.long (1000000 : Int64)), (.ref b85), (.ref b_18)]) (rest := [(.ref b74)]) (lenOf pd0_1 rfl) rfl (by show 2 * 0 + _ ≤ _; exact Nat.le_of_eq rfl) (hb hby at_121) (fun _ _ => ⟨rfl, e85, (by decide : 4 + 0 ≤ _), (by decide : 5 + 0 ≤ _)⟩)
      dsimp only [Pt.U, Pt.locs, Pt.cells, Pt.slots] at X99 l99 y99 z99 st99 hQ99
      subst l99 y99 z99
      obtain ⟨rfl, Nq99, Kc99, F4_99⟩ := hQ99
      have N99 := Fr.app N69 Nq99
      have Z100 : n0 ≤ T99.heap.size := Nat.le_trans Z91 Kc99.1
      have go101 : Go p e below s₁ F0 T99 (mkF m 124 #[vi p1, vi p2, vi p3, vi b, vi (0 : Int32), vi l0, vi l1, vi l2, vi (1 : Int32), vi k0, vi k1, vi k2, vr b_18, vr b_69, .unset, .unset] [(.ref b74)]) := fun t_ k_ => go98 t_ (st99.trans k_)
      have go102 : Go p e below s₁ F0 T99 (mkF m 142 #[vi p1, vi p2, vi p3, vi b, vi (0 : Int32), vi l0, vi l1, vi l2, vi (1 : Int32), vi k0, vi k1, vi k2, vr b_18, vr b_69, vr b74, .unset] [(.int k0), (.int l2), (.int l1), (.int l0), (.int (0 : Int32))]) := by
        intro t_ k_
        refine go101 t_ ?_
        refine o_astore X99 hx (hb hby at_124) rfl (L' := #[vi p1, vi p2, vi p3, vi b, vi (0 : Int32), vi l0, vi l1, vi l2, vi (1 : Int32), vi k0, vi k1, vi k2, vr b_18, vr b_69, vr b74, .unset]) rfl ?_
        refine o_iload X99 hx (hb hby at_126) rfl ?_
        refine o_iconst X99 hx (hb hby at_128) (v := 1) rfl ?_
        refine o_icmpNo X99 hx (hb hby at_129) (flt (by decide : ¬ ((1 : Int32) < (1 : Int32)))).1 ?_
        refine o_iload X99 hx (hb hby at_132) rfl ?_
        refine o_iload X99 hx (hb hby at_134) rfl ?_
        refine o_iload X99 hx (hb hby at_136) rfl ?_
        refine o_iload X99 hx (hb hby at_138) rfl ?_
        refine o_iload X99 hx (hb hby at_140) rfl ?_
        exact k_
      obtain ⟨_, _, ⟨T103, L103, k103, n103⟩, -, X103, ⟨Lc103, hQ103, l103, y103, z103⟩, st103⟩ := Jvm.LawKit.callS X99 hx (y := y_3) hown (mvT hZ (own_w hw 28 rfl)) (mvT hZ (own_w hw 29 rfl)) (mvT hZ (own_w hw 2 rfl)) (mvT hZ (own_w hw 30 rfl)) (by decide) (backOf (W := 0) (rm5_0 l Z a0 hw [] l0 l1 l2 k0 (T99.heap) n0 Z100 ) hZ (own_w hw 30 rfl) (own_w hw 2 rfl) (by decide) (by decide)) (g := (mkF m 142 #[vi p1, vi p2, vi p3, vi b, vi (0 : Int32), vi l0, vi l1, vi l2, vi (1 : Int32), vi k0, vi k1, vi k2, vr b_18, vr b_69, vr b74, .unset] [(.int k0), (.int l2), (.int l1), (.int l0), (.int (0 : Int32))])) rfl (by rw [hml]; rfl) (argsL := [(.int (0 : Int32)), (.int l0), (.int l1), (.int l2), (.int k0)]) (rest := []) (lenOf pd0_3 rfl) rfl (by show 2 * 0 + _ ≤ _; exact Nat.le_of_eq rfl) (hb hby at_142) (fun _ _ => ⟨rfl, rfl, (by decide : 4 + 0 ≤ _), (by decide : 5 + 0 ≤ _)⟩)
      dsimp only [Pt.U, Pt.locs, Pt.cells, Pt.slots] at X103 l103 y103 z103 st103 hQ103
      subst l103 y103 z103
      obtain ⟨rfl, Nq103, eh103⟩ := hQ103
      have N103 := Fr.app N99 Nq103
      have go104 : Go p e below s₁ F0 T103 (mkF m 145 #[vi p1, vi p2, vi p3, vi b, vi (0 : Int32), vi l0, vi l1, vi l2, vi (1 : Int32), vi k0, vi k1, vi k2, vr b_18, vr b_69, vr b74, .unset] [(.int (f5_0 l0 l1 l2 k0))]) := fun t_ k_ => go102 t_ (st103 t_ k_)
      by_cases hc145_105 : (f5_0 l0 l1 l2 k0) = (0 : Int32)
      · skip
        have F106 : Arv Z T99.heap b_18 kb_18 .int (0 : Int32) [] (.int (0 : Int32)) := ((F86.ext E85).keep Kc99 (ninS ne76 nin0))
        have F107 : Arv Z T99.heap b_69 kb_69 .int (1 : Int32) [(.int k0)] (.int (0 : Int32)) := ((F88.ext E85).keep Kc99 (ninS ne77 nin0))
        have go108 : Go p e below s₁ F0 T103 (mkF m 203 #[vi p1, vi p2, vi p3, vi b, vi (0 : Int32), vi l0, vi l1, vi l2, vi (1 : Int32), vi k0, vi k1, vi k2, vr b_18, vr b_69, vr b74, vi (0 : Int32)] [(.ref b_69), (.ref b74)]) := by
          intro t_ k_
          refine go104 t_ ?_
          refine o_ifYes X103 hx (hb hby at_145) (pc' := 196) rfl (by decide) ((if0 _ _).trans (teq hc145_105).1) ?_
          refine o_iconst X103 hx (hb hby at_196) (v := 0) rfl ?_
          refine o_istore X103 hx (hb hby at_197) (L' := #[vi p1, vi p2, vi p3, vi b, vi (0 : Int32), vi l0, vi l1, vi l2, vi (1 : Int32), vi k0, vi k1, vi k2, vr b_18, vr b_69, vr b74, vi (0 : Int32)]) rfl ?_
          refine o_aload X103 hx (hb hby at_199) rfl rfl ?_
          refine o_aload X103 hx (hb hby at_201) rfl rfl ?_
          exact k_
        have F110 : Exa Z T99.heap b74 c_0 := (F93.keep Kc99)
        obtain ⟨cq109, kq109, q109a, q109b, q109c⟩ := isOf hZ eh103 F110
        obtain ⟨_, _, ⟨T109, L109, k109, n109⟩, -, X109, ⟨Lc109, hQ109, l109, y109, z109⟩, st109⟩ := X103.virtualBack hx (y := y_4) (z := y_4) hown (mvT hZ (own_w hw 31 rfl)) (mvT hZ (own_w hw 32 rfl)) (notFace_of_selects (args := #[]) (mvT hZ (own_w hw 34 rfl))) (mvT hZ (own_w hw 34 rfl)) (mvT hZ (own_w hw 33 rfl)) (by decide) (backOf (W := 0) (rm6_0_1 l Z a0 hw [] b74 b_69 b_18 kb_18 kb_69 k0 (T99.heap) n0 Z100 F4_99 F106 F107) hZ (own_w hw 35 rfl) (own_w hw 7 rfl) (by decide) (by decide)) q109a q109c (g := (mkF m 203 #[vi p1, vi p2, vi p3, vi b, vi (0 : Int32), vi l0, vi l1, vi l2, vi (1 : Int32), vi k0, vi k1, vi k2, vr b_18, vr b_69, vr b74, vi (0 : Int32)] [(.ref b_69), (.ref b74)])) rfl (by rw [hml]; rfl) (Steps.refl _) (argsL := [(.ref b_69)]) (rest := []) (lenOf pd0_2 rfl) rfl (by show 2 * 0 + _ ≤ _; exact Nat.le_of_eq rfl) (hb hby at_203) (fun _ _ => ⟨rfl, eh103, (by decide : 4 + 0 ≤ _), (by decide : 5 + 0 ≤ _)⟩)
        dsimp only [Pt.U, Pt.locs, Pt.cells, Pt.slots] at X109 l109 y109 z109 st109 hQ109
        subst l109 y109 z109
        obtain ⟨rfl, Nq109, eh109⟩ := hQ109
        have N109 := Fr.app N103 Nq109
        have go111 : Go p e below s₁ F0 T109 (mkF m 206 #[vi p1, vi p2, vi p3, vi b, vi (0 : Int32), vi l0, vi l1, vi l2, vi (1 : Int32), vi k0, vi k1, vi k2, vr b_18, vr b_69, vr b74, vi (0 : Int32)] [(.int (f6_0_1 k0))]) := fun t_ k_ => go108 t_ (st109.trans k_)
        have go113 : Go p e below s₁ F0 T109 (mkF m 208 #[vi p1, vi p2, vi p3, vi b, vi (0 : Int32), vi l0, vi l1, vi l2, vi (1 : Int32), vi k0, vi k1, vi k2, vr b_18, vr b_69, vr b74, vi (0 : Int32)] [(.int (0 : Int32)), (.int (f6_0_1 k0))]) := by
          intro t_ k_
          refine go111 t_ ?_
          refine o_iload X109 hx (hb hby at_206) rfl ?_
          exact k_
        have hd112 : (f6_0_1 k0) = (0 : Int32) := own_no_0_1_0 l0 l1 l2 k0 k1 k2  hc145_105
        have go114 : Go p e below s₁ F0 T109 (mkF m 216 #[vi p1, vi p2, vi p3, vi b, vi (0 : Int32), vi l0, vi l1, vi l2, vi (1 : Int32), vi k0, vi k1, vi k2, vr b_18, vr b_69, vr b74, vi (0 : Int32)] [(.int (1 : Int32))]) := by
          intro t_ k_
          refine go113 t_ ?_
          refine o_icmpNo X109 hx (hb hby at_208) (teq hd112).2 ?_
          refine o_iconst X109 hx (hb hby at_211) (v := 1) rfl ?_
          refine o_goto X109 hx (hb hby at_212) (pc' := 216) rfl (by decide) ?_
          exact k_
        obtain ⟨fs, hr, hrun, hended, hW, hsame⟩ := X109.leave (v := some (.int (1 : Int32))) (fun h => by rw [Bd.returns] at h; cases h)
        refine ⟨_, _, pre0 _ (go114 _ ?_), hrun, hended, _, _, rfl, ?_, ⟨_, rfl⟩, hW, hsame.mono (by decide) (by decide)⟩
        · skip
          exact retN X109 hx (t := .boolean) Bd.returns (by simp) (hb hby at_216) hr
        · show Q0 Z p1 p2 p3 h0 n0 _ T109.heap _
          rw [eh109]
          exact ⟨rfl, N109⟩
      · skip
        have F115 : Arv Z T99.heap b_18 kb_18 .int (0 : Int32) [] (.int (0 : Int32)) := ((F86.ext E85).keep Kc99 (ninS ne76 nin0))
        have F116 : Arv Z T99.heap b_69 kb_69 .int (1 : Int32) [(.int k0)] (.int (0 : Int32)) := ((F88.ext E85).keep Kc99 (ninS ne77 nin0))
        have go117 : Go p e below s₁ F0 T103 (mkF m 203 #[vi p1, vi p2, vi p3, vi b, vi (0 : Int32), vi l0, vi l1, vi l2, vi (1 : Int32), vi k0, vi k1, vi k2, vr b_18, vr b_69, vr b74, vi (1 : Int32)] [(.ref b_69), (.ref b74)]) := by
          intro t_ k_
          refine go104 t_ ?_
          refine o_ifNo X103 hx (hb hby at_145) ((if0 _ _).trans (feq hc145_105).1) ?_
          refine o_iload X103 hx (hb hby at_148) rfl ?_
          refine o_iconst X103 hx (hb hby at_150) (v := 2) rfl ?_
          refine o_icmpYes X103 hx (hb hby at_151) (pc' := 170) rfl (by decide) (tlt (by decide : (1 : Int32) < (2 : Int32))).1 ?_
          refine o_iload X103 hx (hb hby at_170) rfl ?_
          refine o_iconst X103 hx (hb hby at_172) (v := 3) rfl ?_
          refine o_icmpYes X103 hx (hb hby at_173) (pc' := 192) rfl (by decide) (tlt (by decide : (1 : Int32) < (3 : Int32))).1 ?_
          refine o_iconst X103 hx (hb hby at_192) (v := 1) rfl ?_
          refine o_goto X103 hx (hb hby at_193) (pc' := 197) rfl (by decide) ?_
          refine o_istore X103 hx (hb hby at_197) (L' := #[vi p1, vi p2, vi p3, vi b, vi (0 : Int32), vi l0, vi l1, vi l2, vi (1 : Int32), vi k0, vi k1, vi k2, vr b_18, vr b_69, vr b74, vi (1 : Int32)]) rfl ?_
          refine o_aload X103 hx (hb hby at_199) rfl rfl ?_
          refine o_aload X103 hx (hb hby at_201) rfl rfl ?_
          exact k_
        have F119 : Exa Z T99.heap b74 c_0 := (F93.keep Kc99)
        obtain ⟨cq118, kq118, q118a, q118b, q118c⟩ := isOf hZ eh103 F119
        obtain ⟨_, _, ⟨T118, L118, k118, n118⟩, -, X118, ⟨Lc118, hQ118, l118, y118, z118⟩, st118⟩ := X103.virtualBack hx (y := y_4) (z := y_4) hown (mvT hZ (own_w hw 31 rfl)) (mvT hZ (own_w hw 32 rfl)) (notFace_of_selects (args := #[]) (mvT hZ (own_w hw 34 rfl))) (mvT hZ (own_w hw 34 rfl)) (mvT hZ (own_w hw 33 rfl)) (by decide) (backOf (W := 0) (rm6_0_1 l Z a0 hw [] b74 b_69 b_18 kb_18 kb_69 k0 (T99.heap) n0 Z100 F4_99 F115 F116) hZ (own_w hw 35 rfl) (own_w hw 7 rfl) (by decide) (by decide)) q118a q118c (g := (mkF m 203 #[vi p1, vi p2, vi p3, vi b, vi (0 : Int32), vi l0, vi l1, vi l2, vi (1 : Int32), vi k0, vi k1, vi k2, vr b_18, vr b_69, vr b74, vi (1 : Int32)] [(.ref b_69), (.ref b74)])) rfl (by rw [hml]; rfl) (Steps.refl _) (argsL := [(.ref b_69)]) (rest := []) (lenOf pd0_2 rfl) rfl (by show 2 * 0 + _ ≤ _; exact Nat.le_of_eq rfl) (hb hby at_203) (fun _ _ => ⟨rfl, eh103, (by decide : 4 + 0 ≤ _), (by decide : 5 + 0 ≤ _)⟩)
        dsimp only [Pt.U, Pt.locs, Pt.cells, Pt.slots] at X118 l118 y118 z118 st118 hQ118
        subst l118 y118 z118
        obtain ⟨rfl, Nq118, eh118⟩ := hQ118
        have N118 := Fr.app N103 Nq118
        have go120 : Go p e below s₁ F0 T118 (mkF m 206 #[vi p1, vi p2, vi p3, vi b, vi (0 : Int32), vi l0, vi l1, vi l2, vi (1 : Int32), vi k0, vi k1, vi k2, vr b_18, vr b_69, vr b74, vi (1 : Int32)] [(.int (f6_0_1 k0))]) := fun t_ k_ => go117 t_ (st118.trans k_)
        have go122 : Go p e below s₁ F0 T118 (mkF m 208 #[vi p1, vi p2, vi p3, vi b, vi (0 : Int32), vi l0, vi l1, vi l2, vi (1 : Int32), vi k0, vi k1, vi k2, vr b_18, vr b_69, vr b74, vi (1 : Int32)] [(.int (1 : Int32)), (.int (f6_0_1 k0))]) := by
          intro t_ k_
          refine go120 t_ ?_
          refine o_iload X118 hx (hb hby at_206) rfl ?_
          exact k_
        have hd121 : (f6_0_1 k0) = (1 : Int32) := own_yes_0_1 l0 l1 l2 k0 k1 k2  hc145_105
        have go123 : Go p e below s₁ F0 T118 (mkF m 216 #[vi p1, vi p2, vi p3, vi b, vi (0 : Int32), vi l0, vi l1, vi l2, vi (1 : Int32), vi k0, vi k1, vi k2, vr b_18, vr b_69, vr b74, vi (1 : Int32)] [(.int (1 : Int32))]) := by
          intro t_ k_
          refine go122 t_ ?_
          refine o_icmpNo X118 hx (hb hby at_208) (teq hd121).2 ?_
          refine o_iconst X118 hx (hb hby at_211) (v := 1) rfl ?_
          refine o_goto X118 hx (hb hby at_212) (pc' := 216) rfl (by decide) ?_
          exact k_
        obtain ⟨fs, hr, hrun, hended, hW, hsame⟩ := X118.leave (v := some (.int (1 : Int32))) (fun h => by rw [Bd.returns] at h; cases h)
        refine ⟨_, _, pre0 _ (go123 _ ?_), hrun, hended, _, _, rfl, ?_, ⟨_, rfl⟩, hW, hsame.mono (by decide) (by decide)⟩
        · skip
          exact retN X118 hx (t := .boolean) Bd.returns (by simp) (hb hby at_216) hr
        · show Q0 Z p1 p2 p3 h0 n0 _ T118.heap _
          rw [eh118]
          exact ⟨rfl, N118⟩
    · skip
      have go124 : Go p e below s₁ F0 T18 (mkF m 95 #[vi p1, vi p2, vi p3, vi b, vi (0 : Int32), vi l0, vi l1, vi l2, vi (2 : Int32), vi k0, vi k1, vi k2, vr b_18, .unset, .unset, .unset] []) := by rw [hcs22] at go21; exact go21
      have go125 : Go p e below s₁ F0 T18 (mkF m 103 #[vi p1, vi p2, vi p3, vi b, vi (0 : Int32), vi l0, vi l1, vi l2, vi (2 : Int32), vi k0, vi k1, vi k2, vr b_18, .unset, .unset, .unset] [(.int k2), (.int k1), (.int k0), (.int (2 : Int32))]) := by
        intro t_ k_
        refine go124 t_ ?_
        refine o_iload X18 hx (hb hby at_95) rfl ?_
        refine o_iload X18 hx (hb hby at_97) rfl ?_
        refine o_iload X18 hx (hb hby at_99) rfl ?_
        refine o_iload X18 hx (hb hby at_101) rfl ?_
        exact k_
      obtain ⟨_, _, ⟨T126, L126, k126, n126⟩, -, X126, ⟨Lc126, hQ126, l126, y126, z126⟩, st126⟩ := Jvm.LawKit.callS X18 hx (y := y_1) hown (mvT hZ (own_w hw 0 rfl)) (mvT hZ (own_w hw 1 rfl)) (mvT hZ (own_w hw 2 rfl)) (mvT hZ (own_w hw 3 rfl)) (by decide) (backOf (W := 0) (rm1_2 l Z a0 hw [] k0 k1 k2 (T18.heap) n0 Z19 ) hZ (own_w hw 3 rfl) (own_w hw 2 rfl) (by decide) (by decide)) (g := (mkF m 103 #[vi p1, vi p2, vi p3, vi b, vi (0 : Int32), vi l0, vi l1, vi l2, vi (2 : Int32), vi k0, vi k1, vi k2, vr b_18, .unset, .unset, .unset] [(.int k2), (.int k1), (.int k0), (.int (2 : Int32))])) rfl (by rw [hml]; rfl) (argsL := [(.int (2 : Int32)), (.int k0), (.int k1), (.int k2)]) (rest := []) (lenOf pd0_0 rfl) rfl (by show 2 * 0 + _ ≤ _; exact Nat.le_of_eq rfl) (hb hby at_103) (fun _ _ => ⟨rfl, rfl, (by decide : 1 + 1 ≤ _), (by decide : 0 + 2 ≤ _)⟩)
      dsimp only [Pt.U, Pt.locs, Pt.cells, Pt.slots] at X126 l126 y126 z126 st126 hQ126
      subst l126 y126 z126
      obtain ⟨b_126, kb_126, rfl, Nq126, Kc126, hb_126, V_126⟩ := hQ126
      have N126 := Fr.app N18 Nq126
      have ne127 : b_18 ≠ b_126 := Nat.ne_of_lt (Nat.lt_of_lt_of_le V_18.lt hb_126)
      have g_b_126 : n0 ≤ b_126 := Nat.le_trans Z19 hb_126
      have Z128 : n0 ≤ T126.heap.size := Nat.le_trans Z19 Kc126.1
      have go129 : Go p e below s₁ F0 T126 (mkF m 106 #[vi p1, vi p2, vi p3, vi b, vi (0 : Int32), vi l0, vi l1, vi l2, vi (2 : Int32), vi k0, vi k1, vi k2, vr b_18, .unset, .unset, .unset] [(.ref b_126)]) := fun t_ k_ => go125 t_ (st126 t_ k_)
      have go130 : Go p e below s₁ F0 T126 (mkF m 108 #[vi p1, vi p2, vi p3, vi b, vi (0 : Int32), vi l0, vi l1, vi l2, vi (2 : Int32), vi k0, vi k1, vi k2, vr b_18, vr b_126, .unset, .unset] []) := by
        intro t_ k_
        refine go129 t_ ?_
        refine o_astore X126 hx (hb hby at_106) rfl (L' := #[vi p1, vi p2, vi p3, vi b, vi (0 : Int32), vi l0, vi l1, vi l2, vi (2 : Int32), vi k0, vi k1, vi k2, vr b_18, vr b_126, .unset, .unset]) rfl ?_
        exact k_
      obtain ⟨T131, h131, X131, e131, E131, A131, D131, -, st131⟩ := newO X126 hx hZ hown (own_w hw 5 rfl) (own_w hw 6 rfl) (own_w hw 7 rfl) rfl (g := (mkF m 108 #[vi p1, vi p2, vi p3, vi b, vi (0 : Int32), vi l0, vi l1, vi l2, vi (2 : Int32), vi k0, vi k1, vi k2, vr b_18, vr b_126, .unset, .unset] [])) rfl (hb hby at_108) (by decide) (by decide)
      obtain ⟨b131, gz131⟩ : ∃ z, z = T126.heap.size := ⟨_, rfl⟩
      rw [← gz131] at A131 D131 st131
      have F132 : Arv Z T126.heap b_18 kb_18 .int (0 : Int32) [] (.int (0 : Int32)) := (V_18.keep Kc126 nin0)
      have ne133 : b_18 ≠ b131 := Nat.ne_of_lt (Nat.lt_of_lt_of_le F132.lt (Nat.le_of_eq gz131.symm))
      have ne134 : b_126 ≠ b131 := Nat.ne_of_lt (Nat.lt_of_lt_of_le V_126.lt (Nat.le_of_eq gz131.symm))
      have g_b131 : n0 ≤ b131 := Nat.le_trans Z128 (Nat.le_of_eq gz131.symm)
      have Z135 : n0 ≤ h131.size := Nat.le_trans Z128 E131.1
      have F136 : Fld Z h131 b131 c_0 "id" "J" (.long (0 : Int64)) := D131 (Or.inr (own_w hw 21 rfl)) (ty := .long) (by decide)
      have F137 : Fld Z h131 b131 c_0 "power" "J" (.long (0 : Int64)) := D131 (Or.inr (own_w hw 23 rfl)) (ty := .long) (by decide)
      have F138 : Fld Z h131 b131 c_0 "units" "[I" .null := D131 (Or.inr (own_w hw 25 rfl)) (ty := (.array .int)) (by decide)
      have F139 : Fld Z h131 b131 c_0 "licences" "[I" .null := D131 (Or.inr (own_w hw 27 rfl)) (ty := (.array .int)) (by decide)
      have go140 : Go p e below s₁ F0 T131 (mkF m 111 #[vi p1, vi p2, vi p3, vi b, vi (0 : Int32), vi l0, vi l1, vi l2, vi (2 : Int32), vi k0, vi k1, vi k2, vr b_18, vr b_126, .unset, .unset] [(.ref b131)]) := fun t_ k_ => go130 t_ (st131 t_ k_)
      have go141 : Go p e below s₁ F0 T131 (mkF m 117 #[vi p1, vi p2, vi p3, vi b, vi (0 : Int32), vi l0, vi l1, vi l2, vi (2 : Int32), vi k0, vi k1, vi k2, vr b_18, vr b_126, .unset, .unset] [(.int (0 : Int32)), (.long (1000000 : Int64)), (.long (0 : Int64)), (.ref b131), (.ref b131)]) := by
        intro t_ k_
        refine go140 t_ ?_
        refine o_dup X131 hx (hb hby at_111) rfl ?_
        refine o_lconst X131 hx (hb hby at_112) (v := 0) rfl ?_
        refine o_ldc2 X131 hx hown (mvT hZ (own_w hw 8 rfl)) (hb hby at_113) ?_
        refine o_iconst X131 hx (hb hby at_116) (v := 0) rfl ?_
        exact k_
      obtain ⟨T142, h142, k142, X142, e142, E142, A142, st142⟩ := newP X131 hx hZ (own_w hw 4 rfl) e131 (g := (mkF m 117 #[vi p1, vi p2, vi p3, vi b, vi (0 : Int32), vi l0, vi l1, vi l2, vi (2 : Int32), vi k0, vi k1, vi k2, vr b_18, vr b_126, .unset, .unset] [(.int (0 : Int32)), (.long (1000000 : Int64)), (.long (0 : Int64)), (.ref b131), (.ref b131)])) rfl (hb hby at_117) rfl (by decide) (cap := 0) (by decide) (by decide) (by decide) (by decide)
      obtain ⟨b142, gz142⟩ : ∃ z, z = h131.size := ⟨_, rfl⟩
      rw [← gz142] at A142 st142
      have F143 : Arv Z h131 b_18 kb_18 .int (0 : Int32) [] (.int (0 : Int32)) := (F132.ext E131)
      have ne144 : b_18 ≠ b142 := Nat.ne_of_lt (Nat.lt_of_lt_of_le F143.lt (Nat.le_of_eq gz142.symm))
      have F145 : Arv Z h131 b_126 kb_126 .int (2 : Int32) [(.int k0), (.int k1)] (.int (0 : Int32)) := (V_126.ext E131)
      have ne146 : b_126 ≠ b142 := Nat.ne_of_lt (Nat.lt_of_lt_of_le F145.lt (Nat.le_of_eq gz142.symm))
      have ne147 : b131 ≠ b142 := Nat.ne_of_lt (Nat.lt_of_lt_of_le A131.lt (Nat.le_of_eq gz142.symm))
      have g_b142 : n0 ≤ b142 := Nat.le_trans Z135 (Nat.le_of_eq gz142.symm)
      have Z148 : n0 ≤ h142.size := Nat.le_trans Z135 E142.1
      have V142 : Arv Z h142 b142 k142 .int (0 : Int32) [] (.int (0 : Int32)) := (Arv.new A142 (by decide)).pad (pad_rep [] (.int (0 : Int32)) 0)
      have go149 : Go p e below s₁ F0 T142 (mkF m 119 #[vi p1, vi p2, vi p3, vi b, vi (0 : Int32), vi l0, vi l1, vi l2, vi (2 : Int32), vi k0, vi k1, vi k2, vr b_18, vr b_126, .unset, .unset] [(.ref b142), (.long (1000000 : Int64)), (.long (0 : Int64)), (.ref b131), (.ref b131)]) := fun t_ k_ => go141 t_ (st142 t_ k_)
      have F150 : Exa Z h142 b131 c_0 := (A131.ext E142)
      have F151 : Fld Z h142 b131 c_0 "id" "J" (.long (0 : Int64)) := (F136.ext E142)
      have F152 : Fld Z h142 b131 c_0 "power" "J" (.long (0 : Int64)) := (F137.ext E142)
      have F153 : Fld Z h142 b131 c_0 "units" "[I" .null := (F138.ext E142)
      have F154 : Fld Z h142 b131 c_0 "licences" "[I" .null := (F139.ext E142)
      have go155 : Go p e below s₁ F0 T142 (mkF m 121 #[vi p1, vi p2, vi p3, vi b, vi (0 : Int32), vi l0, vi l1, vi l2, vi (2 : Int32), vi k0, vi k1, vi k2, vr b_18, vr b_126, .unset, .unset] [(.ref b_18), (.ref b142), (.long (1000000 : Int64)), (.long (0 : Int64)), (.ref b131), (.ref b131)]) := by
        intro t_ k_
        refine go149 t_ ?_
        refine o_aload X142 hx (hb hby at_119) rfl rfl ?_
        exact k_
      obtain ⟨_, _, ⟨T156, L156, k156, n156⟩, -, X156, ⟨Lc156, hQ156, l156, y156, z156⟩, st156⟩ := X142.specialBack hx (y := y_2) rfl hown (mvT hZ (own_w hw 9 rfl)) (mvT hZ (own_w hw 10 rfl)) (mvT hZ (own_w hw 11 rfl)) (by decide) (backOf (W := 1) (rm2 l Z a0 hw [] b131 (0 : Int64) (1000000 : Int64) b142 b_18 h142 n0 Z148 F150 F151 F152 F153 F154 g_b131) hZ (own_w hw 11 rfl) (own_w hw 7 rfl) (by decide) (by decide)) (g := (mkF m 121 #[vi p1, vi p2, vi p3, vi b, vi (0 : Int32), vi l0, vi l1, vi l2, vi (2 : Int32), vi k0, vi k1, vi k2, vr b_18, vr b_126, .unset, .unset] [(.ref b_18), (.ref b142), (.long (1000000 : Int64)), (.long (0 : Int64)), (.ref b131), (.ref b131)])) rfl (by rw [hml]; rfl) (Steps.refl _) (a := b131) (argsL := [(.long (0 : Int64)), (.long (1000000 : Int64)), (.ref b142), (.ref b_18)]) (rest := [(.ref b131)]) (lenOf pd0_1 rfl) rfl (by show 2 * 0 + _ ≤ _; exact Nat.le_of_eq rfl) (hb hby at_121) (fun _ _ => ⟨rfl, e142, (by decide : 4 + 0 ≤ _), (by decide : 6 + 0 ≤ _)⟩)
      dsimp only [Pt.U, Pt.locs, Pt.cells, Pt.slots] at X156 l156 y156 z156 st156 hQ156
      subst l156 y156 z156
      obtain ⟨rfl, Nq156, Kc156, F4_156⟩ := hQ156
      have N156 := Fr.app N126 Nq156
      have Z157 : n0 ≤ T156.heap.size := Nat.le_trans Z148 Kc156.1
      have go158 : Go p e below s₁ F0 T156 (mkF m 124 #[vi p1, vi p2, vi p3, vi b, vi (0 : Int32), vi l0, vi l1, vi l2, vi (2 : Int32), vi k0, vi k1, vi k2, vr b_18, vr b_126, .unset, .unset] [(.ref b131)]) := fun t_ k_ => go155 t_ (st156.trans k_)
      have go159 : Go p e below s₁ F0 T156 (mkF m 142 #[vi p1, vi p2, vi p3, vi b, vi (0 : Int32), vi l0, vi l1, vi l2, vi (2 : Int32), vi k0, vi k1, vi k2, vr b_18, vr b_126, vr b131, .unset] [(.int k0), (.int l2), (.int l1), (.int l0), (.int (0 : Int32))]) := by
        intro t_ k_
        refine go158 t_ ?_
        refine o_astore X156 hx (hb hby at_124) rfl (L' := #[vi p1, vi p2, vi p3, vi b, vi (0 : Int32), vi l0, vi l1, vi l2, vi (2 : Int32), vi k0, vi k1, vi k2, vr b_18, vr b_126, vr b131, .unset]) rfl ?_
        refine o_iload X156 hx (hb hby at_126) rfl ?_
        refine o_iconst X156 hx (hb hby at_128) (v := 1) rfl ?_
        refine o_icmpNo X156 hx (hb hby at_129) (flt (by decide : ¬ ((2 : Int32) < (1 : Int32)))).1 ?_
        refine o_iload X156 hx (hb hby at_132) rfl ?_
        refine o_iload X156 hx (hb hby at_134) rfl ?_
        refine o_iload X156 hx (hb hby at_136) rfl ?_
        refine o_iload X156 hx (hb hby at_138) rfl ?_
        refine o_iload X156 hx (hb hby at_140) rfl ?_
        exact k_
      obtain ⟨_, _, ⟨T160, L160, k160, n160⟩, -, X160, ⟨Lc160, hQ160, l160, y160, z160⟩, st160⟩ := Jvm.LawKit.callS X156 hx (y := y_3) hown (mvT hZ (own_w hw 28 rfl)) (mvT hZ (own_w hw 29 rfl)) (mvT hZ (own_w hw 2 rfl)) (mvT hZ (own_w hw 30 rfl)) (by decide) (backOf (W := 0) (rm5_0 l Z a0 hw [] l0 l1 l2 k0 (T156.heap) n0 Z157 ) hZ (own_w hw 30 rfl) (own_w hw 2 rfl) (by decide) (by decide)) (g := (mkF m 142 #[vi p1, vi p2, vi p3, vi b, vi (0 : Int32), vi l0, vi l1, vi l2, vi (2 : Int32), vi k0, vi k1, vi k2, vr b_18, vr b_126, vr b131, .unset] [(.int k0), (.int l2), (.int l1), (.int l0), (.int (0 : Int32))])) rfl (by rw [hml]; rfl) (argsL := [(.int (0 : Int32)), (.int l0), (.int l1), (.int l2), (.int k0)]) (rest := []) (lenOf pd0_3 rfl) rfl (by show 2 * 0 + _ ≤ _; exact Nat.le_of_eq rfl) (hb hby at_142) (fun _ _ => ⟨rfl, rfl, (by decide : 4 + 0 ≤ _), (by decide : 6 + 0 ≤ _)⟩)
      dsimp only [Pt.U, Pt.locs, Pt.cells, Pt.slots] at X160 l160 y160 z160 st160 hQ160
      subst l160 y160 z160
      obtain ⟨rfl, Nq160, eh160⟩ := hQ160
      have N160 := Fr.app N156 Nq160
      have go161 : Go p e below s₁ F0 T160 (mkF m 145 #[vi p1, vi p2, vi p3, vi b, vi (0 : Int32), vi l0, vi l1, vi l2, vi (2 : Int32), vi k0, vi k1, vi k2, vr b_18, vr b_126, vr b131, .unset] [(.int (f5_0 l0 l1 l2 k0))]) := fun t_ k_ => go159 t_ (st160 t_ k_)
      by_cases hc145_162 : (f5_0 l0 l1 l2 k0) = (0 : Int32)
      · skip
        have F163 : Arv Z T156.heap b_18 kb_18 .int (0 : Int32) [] (.int (0 : Int32)) := ((F143.ext E142).keep Kc156 (ninS ne133 nin0))
        have F164 : Arv Z T156.heap b_126 kb_126 .int (2 : Int32) [(.int k0), (.int k1)] (.int (0 : Int32)) := ((F145.ext E142).keep Kc156 (ninS ne134 nin0))
        have go165 : Go p e below s₁ F0 T160 (mkF m 203 #[vi p1, vi p2, vi p3, vi b, vi (0 : Int32), vi l0, vi l1, vi l2, vi (2 : Int32), vi k0, vi k1, vi k2, vr b_18, vr b_126, vr b131, vi (0 : Int32)] [(.ref b_126), (.ref b131)]) := by
          intro t_ k_
          refine go161 t_ ?_
          refine o_ifYes X160 hx (hb hby at_145) (pc' := 196) rfl (by decide) ((if0 _ _).trans (teq hc145_162).1) ?_
          refine o_iconst X160 hx (hb hby at_196) (v := 0) rfl ?_
          refine o_istore X160 hx (hb hby at_197) (L' := #[vi p1, vi p2, vi p3, vi b, vi (0 : Int32), vi l0, vi l1, vi l2, vi (2 : Int32), vi k0, vi k1, vi k2, vr b_18, vr b_126, vr b131, vi (0 : Int32)]) rfl ?_
          refine o_aload X160 hx (hb hby at_199) rfl rfl ?_
          refine o_aload X160 hx (hb hby at_201) rfl rfl ?_
          exact k_
        have F167 : Exa Z T156.heap b131 c_0 := (F150.keep Kc156)
        obtain ⟨cq166, kq166, q166a, q166b, q166c⟩ := isOf hZ eh160 F167
        obtain ⟨_, _, ⟨T166, L166, k166, n166⟩, -, X166, ⟨Lc166, hQ166, l166, y166, z166⟩, st166⟩ := X160.virtualBack hx (y := y_4) (z := y_4) hown (mvT hZ (own_w hw 31 rfl)) (mvT hZ (own_w hw 32 rfl)) (notFace_of_selects (args := #[]) (mvT hZ (own_w hw 34 rfl))) (mvT hZ (own_w hw 34 rfl)) (mvT hZ (own_w hw 33 rfl)) (by decide) (backOf (W := 0) (rm6_0_2 l Z a0 hw [] b131 b_126 b_18 kb_18 kb_126 k0 k1 (T156.heap) n0 Z157 F4_156 F163 F164 (own_s0 h_b h_k0 h_k1)) hZ (own_w hw 35 rfl) (own_w hw 7 rfl) (by decide) (by decide)) q166a q166c (g := (mkF m 203 #[vi p1, vi p2, vi p3, vi b, vi (0 : Int32), vi l0, vi l1, vi l2, vi (2 : Int32), vi k0, vi k1, vi k2, vr b_18, vr b_126, vr b131, vi (0 : Int32)] [(.ref b_126), (.ref b131)])) rfl (by rw [hml]; rfl) (Steps.refl _) (argsL := [(.ref b_126)]) (rest := []) (lenOf pd0_2 rfl) rfl (by show 2 * 0 + _ ≤ _; exact Nat.le_of_eq rfl) (hb hby at_203) (fun _ _ => ⟨rfl, eh160, (by decide : 4 + 0 ≤ _), (by decide : 6 + 0 ≤ _)⟩)
        dsimp only [Pt.U, Pt.locs, Pt.cells, Pt.slots] at X166 l166 y166 z166 st166 hQ166
        subst l166 y166 z166
        obtain ⟨rfl, Nq166, eh166⟩ := hQ166
        have N166 := Fr.app N160 Nq166
        have go168 : Go p e below s₁ F0 T166 (mkF m 206 #[vi p1, vi p2, vi p3, vi b, vi (0 : Int32), vi l0, vi l1, vi l2, vi (2 : Int32), vi k0, vi k1, vi k2, vr b_18, vr b_126, vr b131, vi (0 : Int32)] [(.int (f6_0_2 k0 k1))]) := fun t_ k_ => go165 t_ (st166.trans k_)
        have go170 : Go p e below s₁ F0 T166 (mkF m 208 #[vi p1, vi p2, vi p3, vi b, vi (0 : Int32), vi l0, vi l1, vi l2, vi (2 : Int32), vi k0, vi k1, vi k2, vr b_18, vr b_126, vr b131, vi (0 : Int32)] [(.int (0 : Int32)), (.int (f6_0_2 k0 k1))]) := by
          intro t_ k_
          refine go168 t_ ?_
          refine o_iload X166 hx (hb hby at_206) rfl ?_
          exact k_
        have hd169 : (f6_0_2 k0 k1) = (0 : Int32) := own_no_0_2_0 l0 l1 l2 k0 k1 k2 (own_s0 h_b h_k0 h_k1) hc145_162
        have go171 : Go p e below s₁ F0 T166 (mkF m 216 #[vi p1, vi p2, vi p3, vi b, vi (0 : Int32), vi l0, vi l1, vi l2, vi (2 : Int32), vi k0, vi k1, vi k2, vr b_18, vr b_126, vr b131, vi (0 : Int32)] [(.int (1 : Int32))]) := by
          intro t_ k_
          refine go170 t_ ?_
          refine o_icmpNo X166 hx (hb hby at_208) (teq hd169).2 ?_
          refine o_iconst X166 hx (hb hby at_211) (v := 1) rfl ?_
          refine o_goto X166 hx (hb hby at_212) (pc' := 216) rfl (by decide) ?_
          exact k_
        obtain ⟨fs, hr, hrun, hended, hW, hsame⟩ := X166.leave (v := some (.int (1 : Int32))) (fun h => by rw [Bd.returns] at h; cases h)
        refine ⟨_, _, pre0 _ (go171 _ ?_), hrun, hended, _, _, rfl, ?_, ⟨_, rfl⟩, hW, hsame.mono (by decide) (by decide)⟩
        · skip
          exact retN X166 hx (t := .boolean) Bd.returns (by simp) (hb hby at_216) hr
        · show Q0 Z p1 p2 p3 h0 n0 _ T166.heap _
          rw [eh166]
          exact ⟨rfl, N166⟩
      · skip
        have go172 : Go p e below s₁ F0 T160 (mkF m 164 #[vi p1, vi p2, vi p3, vi b, vi (0 : Int32), vi l0, vi l1, vi l2, vi (2 : Int32), vi k0, vi k1, vi k2, vr b_18, vr b_126, vr b131, .unset] [(.int k1), (.int l2), (.int l1), (.int l0), (.int (0 : Int32))]) := by
          intro t_ k_
          refine go161 t_ ?_
          refine o_ifNo X160 hx (hb hby at_145) ((if0 _ _).trans (feq hc145_162).1) ?_
          refine o_iload X160 hx (hb hby at_148) rfl ?_
          refine o_iconst X160 hx (hb hby at_150) (v := 2) rfl ?_
          refine o_icmpNo X160 hx (hb hby at_151) (flt (by decide : ¬ ((2 : Int32) < (2 : Int32)))).1 ?_
          refine o_iload X160 hx (hb hby at_154) rfl ?_
          refine o_iload X160 hx (hb hby at_156) rfl ?_
          refine o_iload X160 hx (hb hby at_158) rfl ?_
          refine o_iload X160 hx (hb hby at_160) rfl ?_
          refine o_iload X160 hx (hb hby at_162) rfl ?_
          exact k_
        obtain ⟨_, _, ⟨T173, L173, k173, n173⟩, -, X173, ⟨Lc173, hQ173, l173, y173, z173⟩, st173⟩ := Jvm.LawKit.callS X160 hx (y := y_3) hown (mvT hZ (own_w hw 28 rfl)) (mvT hZ (own_w hw 29 rfl)) (mvT hZ (own_w hw 2 rfl)) (mvT hZ (own_w hw 30 rfl)) (by decide) (backOf (W := 0) (rm5_0 l Z a0 hw [] l0 l1 l2 k1 (T156.heap) n0 Z157 ) hZ (own_w hw 30 rfl) (own_w hw 2 rfl) (by decide) (by decide)) (g := (mkF m 164 #[vi p1, vi p2, vi p3, vi b, vi (0 : Int32), vi l0, vi l1, vi l2, vi (2 : Int32), vi k0, vi k1, vi k2, vr b_18, vr b_126, vr b131, .unset] [(.int k1), (.int l2), (.int l1), (.int l0), (.int (0 : Int32))])) rfl (by rw [hml]; rfl) (argsL := [(.int (0 : Int32)), (.int l0), (.int l1), (.int l2), (.int k1)]) (rest := []) (lenOf pd0_3 rfl) rfl (by show 2 * 0 + _ ≤ _; exact Nat.le_of_eq rfl) (hb hby at_164) (fun _ _ => ⟨rfl, eh160, (by decide : 4 + 0 ≤ _), (by decide : 6 + 0 ≤ _)⟩)
        dsimp only [Pt.U, Pt.locs, Pt.cells, Pt.slots] at X173 l173 y173 z173 st173 hQ173
        subst l173 y173 z173
        obtain ⟨rfl, Nq173, eh173⟩ := hQ173
        have N173 := Fr.app N160 Nq173
        have go174 : Go p e below s₁ F0 T173 (mkF m 167 #[vi p1, vi p2, vi p3, vi b, vi (0 : Int32), vi l0, vi l1, vi l2, vi (2 : Int32), vi k0, vi k1, vi k2, vr b_18, vr b_126, vr b131, .unset] [(.int (f5_0 l0 l1 l2 k1))]) := fun t_ k_ => go172 t_ (st173 t_ k_)
        by_cases hc167_175 : (f5_0 l0 l1 l2 k1) = (0 : Int32)
        · skip
          have F176 : Arv Z T156.heap b_18 kb_18 .int (0 : Int32) [] (.int (0 : Int32)) := ((F143.ext E142).keep Kc156 (ninS ne133 nin0))
          have F177 : Arv Z T156.heap b_126 kb_126 .int (2 : Int32) [(.int k0), (.int k1)] (.int (0 : Int32)) := ((F145.ext E142).keep Kc156 (ninS ne134 nin0))
          have go178 : Go p e below s₁ F0 T173 (mkF m 203 #[vi p1, vi p2, vi p3, vi b, vi (0 : Int32), vi l0, vi l1, vi l2, vi (2 : Int32), vi k0, vi k1, vi k2, vr b_18, vr b_126, vr b131, vi (0 : Int32)] [(.ref b_126), (.ref b131)]) := by
            intro t_ k_
            refine go174 t_ ?_
            refine o_ifYes X173 hx (hb hby at_167) (pc' := 196) rfl (by decide) ((if0 _ _).trans (teq hc167_175).1) ?_
            refine o_iconst X173 hx (hb hby at_196) (v := 0) rfl ?_
            refine o_istore X173 hx (hb hby at_197) (L' := #[vi p1, vi p2, vi p3, vi b, vi (0 : Int32), vi l0, vi l1, vi l2, vi (2 : Int32), vi k0, vi k1, vi k2, vr b_18, vr b_126, vr b131, vi (0 : Int32)]) rfl ?_
            refine o_aload X173 hx (hb hby at_199) rfl rfl ?_
            refine o_aload X173 hx (hb hby at_201) rfl rfl ?_
            exact k_
          have F180 : Exa Z T156.heap b131 c_0 := (F150.keep Kc156)
          obtain ⟨cq179, kq179, q179a, q179b, q179c⟩ := isOf hZ eh173 F180
          obtain ⟨_, _, ⟨T179, L179, k179, n179⟩, -, X179, ⟨Lc179, hQ179, l179, y179, z179⟩, st179⟩ := X173.virtualBack hx (y := y_4) (z := y_4) hown (mvT hZ (own_w hw 31 rfl)) (mvT hZ (own_w hw 32 rfl)) (notFace_of_selects (args := #[]) (mvT hZ (own_w hw 34 rfl))) (mvT hZ (own_w hw 34 rfl)) (mvT hZ (own_w hw 33 rfl)) (by decide) (backOf (W := 0) (rm6_0_2 l Z a0 hw [] b131 b_126 b_18 kb_18 kb_126 k0 k1 (T156.heap) n0 Z157 F4_156 F176 F177 (own_s0 h_b h_k0 h_k1)) hZ (own_w hw 35 rfl) (own_w hw 7 rfl) (by decide) (by decide)) q179a q179c (g := (mkF m 203 #[vi p1, vi p2, vi p3, vi b, vi (0 : Int32), vi l0, vi l1, vi l2, vi (2 : Int32), vi k0, vi k1, vi k2, vr b_18, vr b_126, vr b131, vi (0 : Int32)] [(.ref b_126), (.ref b131)])) rfl (by rw [hml]; rfl) (Steps.refl _) (argsL := [(.ref b_126)]) (rest := []) (lenOf pd0_2 rfl) rfl (by show 2 * 0 + _ ≤ _; exact Nat.le_of_eq rfl) (hb hby at_203) (fun _ _ => ⟨rfl, eh173, (by decide : 4 + 0 ≤ _), (by decide : 6 + 0 ≤ _)⟩)
          dsimp only [Pt.U, Pt.locs, Pt.cells, Pt.slots] at X179 l179 y179 z179 st179 hQ179
          subst l179 y179 z179
          obtain ⟨rfl, Nq179, eh179⟩ := hQ179
          have N179 := Fr.app N173 Nq179
          have go181 : Go p e below s₁ F0 T179 (mkF m 206 #[vi p1, vi p2, vi p3, vi b, vi (0 : Int32), vi l0, vi l1, vi l2, vi (2 : Int32), vi k0, vi k1, vi k2, vr b_18, vr b_126, vr b131, vi (0 : Int32)] [(.int (f6_0_2 k0 k1))]) := fun t_ k_ => go178 t_ (st179.trans k_)
          have go183 : Go p e below s₁ F0 T179 (mkF m 208 #[vi p1, vi p2, vi p3, vi b, vi (0 : Int32), vi l0, vi l1, vi l2, vi (2 : Int32), vi k0, vi k1, vi k2, vr b_18, vr b_126, vr b131, vi (0 : Int32)] [(.int (0 : Int32)), (.int (f6_0_2 k0 k1))]) := by
            intro t_ k_
            refine go181 t_ ?_
            refine o_iload X179 hx (hb hby at_206) rfl ?_
            exact k_
          have hd182 : (f6_0_2 k0 k1) = (0 : Int32) := own_no_0_2_1 l0 l1 l2 k0 k1 k2 (own_s0 h_b h_k0 h_k1) hc167_175
          have go184 : Go p e below s₁ F0 T179 (mkF m 216 #[vi p1, vi p2, vi p3, vi b, vi (0 : Int32), vi l0, vi l1, vi l2, vi (2 : Int32), vi k0, vi k1, vi k2, vr b_18, vr b_126, vr b131, vi (0 : Int32)] [(.int (1 : Int32))]) := by
            intro t_ k_
            refine go183 t_ ?_
            refine o_icmpNo X179 hx (hb hby at_208) (teq hd182).2 ?_
            refine o_iconst X179 hx (hb hby at_211) (v := 1) rfl ?_
            refine o_goto X179 hx (hb hby at_212) (pc' := 216) rfl (by decide) ?_
            exact k_
          obtain ⟨fs, hr, hrun, hended, hW, hsame⟩ := X179.leave (v := some (.int (1 : Int32))) (fun h => by rw [Bd.returns] at h; cases h)
          refine ⟨_, _, pre0 _ (go184 _ ?_), hrun, hended, _, _, rfl, ?_, ⟨_, rfl⟩, hW, hsame.mono (by decide) (by decide)⟩
          · skip
            exact retN X179 hx (t := .boolean) Bd.returns (by simp) (hb hby at_216) hr
          · show Q0 Z p1 p2 p3 h0 n0 _ T179.heap _
            rw [eh179]
            exact ⟨rfl, N179⟩
        · skip
          have F185 : Arv Z T156.heap b_18 kb_18 .int (0 : Int32) [] (.int (0 : Int32)) := ((F143.ext E142).keep Kc156 (ninS ne133 nin0))
          have F186 : Arv Z T156.heap b_126 kb_126 .int (2 : Int32) [(.int k0), (.int k1)] (.int (0 : Int32)) := ((F145.ext E142).keep Kc156 (ninS ne134 nin0))
          have go187 : Go p e below s₁ F0 T173 (mkF m 203 #[vi p1, vi p2, vi p3, vi b, vi (0 : Int32), vi l0, vi l1, vi l2, vi (2 : Int32), vi k0, vi k1, vi k2, vr b_18, vr b_126, vr b131, vi (1 : Int32)] [(.ref b_126), (.ref b131)]) := by
            intro t_ k_
            refine go174 t_ ?_
            refine o_ifNo X173 hx (hb hby at_167) ((if0 _ _).trans (feq hc167_175).1) ?_
            refine o_iload X173 hx (hb hby at_170) rfl ?_
            refine o_iconst X173 hx (hb hby at_172) (v := 3) rfl ?_
            refine o_icmpYes X173 hx (hb hby at_173) (pc' := 192) rfl (by decide) (tlt (by decide : (2 : Int32) < (3 : Int32))).1 ?_
            refine o_iconst X173 hx (hb hby at_192) (v := 1) rfl ?_
            refine o_goto X173 hx (hb hby at_193) (pc' := 197) rfl (by decide) ?_
            refine o_istore X173 hx (hb hby at_197) (L' := #[vi p1, vi p2, vi p3, vi b, vi (0 : Int32), vi l0, vi l1, vi l2, vi (2 : Int32), vi k0, vi k1, vi k2, vr b_18, vr b_126, vr b131, vi (1 : Int32)]) rfl ?_
            refine o_aload X173 hx (hb hby at_199) rfl rfl ?_
            refine o_aload X173 hx (hb hby at_201) rfl rfl ?_
            exact k_
          have F189 : Exa Z T156.heap b131 c_0 := (F150.keep Kc156)
          obtain ⟨cq188, kq188, q188a, q188b, q188c⟩ := isOf hZ eh173 F189
          obtain ⟨_, _, ⟨T188, L188, k188, n188⟩, -, X188, ⟨Lc188, hQ188, l188, y188, z188⟩, st188⟩ := X173.virtualBack hx (y := y_4) (z := y_4) hown (mvT hZ (own_w hw 31 rfl)) (mvT hZ (own_w hw 32 rfl)) (notFace_of_selects (args := #[]) (mvT hZ (own_w hw 34 rfl))) (mvT hZ (own_w hw 34 rfl)) (mvT hZ (own_w hw 33 rfl)) (by decide) (backOf (W := 0) (rm6_0_2 l Z a0 hw [] b131 b_126 b_18 kb_18 kb_126 k0 k1 (T156.heap) n0 Z157 F4_156 F185 F186 (own_s0 h_b h_k0 h_k1)) hZ (own_w hw 35 rfl) (own_w hw 7 rfl) (by decide) (by decide)) q188a q188c (g := (mkF m 203 #[vi p1, vi p2, vi p3, vi b, vi (0 : Int32), vi l0, vi l1, vi l2, vi (2 : Int32), vi k0, vi k1, vi k2, vr b_18, vr b_126, vr b131, vi (1 : Int32)] [(.ref b_126), (.ref b131)])) rfl (by rw [hml]; rfl) (Steps.refl _) (argsL := [(.ref b_126)]) (rest := []) (lenOf pd0_2 rfl) rfl (by show 2 * 0 + _ ≤ _; exact Nat.le_of_eq rfl) (hb hby at_203) (fun _ _ => ⟨rfl, eh173, (by decide : 4 + 0 ≤ _), (by decide : 6 + 0 ≤ _)⟩)
          dsimp only [Pt.U, Pt.locs, Pt.cells, Pt.slots] at X188 l188 y188 z188 st188 hQ188
          subst l188 y188 z188
          obtain ⟨rfl, Nq188, eh188⟩ := hQ188
          have N188 := Fr.app N173 Nq188
          have go190 : Go p e below s₁ F0 T188 (mkF m 206 #[vi p1, vi p2, vi p3, vi b, vi (0 : Int32), vi l0, vi l1, vi l2, vi (2 : Int32), vi k0, vi k1, vi k2, vr b_18, vr b_126, vr b131, vi (1 : Int32)] [(.int (f6_0_2 k0 k1))]) := fun t_ k_ => go187 t_ (st188.trans k_)
          have go192 : Go p e below s₁ F0 T188 (mkF m 208 #[vi p1, vi p2, vi p3, vi b, vi (0 : Int32), vi l0, vi l1, vi l2, vi (2 : Int32), vi k0, vi k1, vi k2, vr b_18, vr b_126, vr b131, vi (1 : Int32)] [(.int (1 : Int32)), (.int (f6_0_2 k0 k1))]) := by
            intro t_ k_
            refine go190 t_ ?_
            refine o_iload X188 hx (hb hby at_206) rfl ?_
            exact k_
          have hd191 : (f6_0_2 k0 k1) = (1 : Int32) := own_yes_0_2 l0 l1 l2 k0 k1 k2 (own_s0 h_b h_k0 h_k1) hc145_162 hc167_175
          have go193 : Go p e below s₁ F0 T188 (mkF m 216 #[vi p1, vi p2, vi p3, vi b, vi (0 : Int32), vi l0, vi l1, vi l2, vi (2 : Int32), vi k0, vi k1, vi k2, vr b_18, vr b_126, vr b131, vi (1 : Int32)] [(.int (1 : Int32))]) := by
            intro t_ k_
            refine go192 t_ ?_
            refine o_icmpNo X188 hx (hb hby at_208) (teq hd191).2 ?_
            refine o_iconst X188 hx (hb hby at_211) (v := 1) rfl ?_
            refine o_goto X188 hx (hb hby at_212) (pc' := 216) rfl (by decide) ?_
            exact k_
          obtain ⟨fs, hr, hrun, hended, hW, hsame⟩ := X188.leave (v := some (.int (1 : Int32))) (fun h => by rw [Bd.returns] at h; cases h)
          refine ⟨_, _, pre0 _ (go193 _ ?_), hrun, hended, _, _, rfl, ?_, ⟨_, rfl⟩, hW, hsame.mono (by decide) (by decide)⟩
          · skip
            exact retN X188 hx (t := .boolean) Bd.returns (by simp) (hb hby at_216) hr
          · show Q0 Z p1 p2 p3 h0 n0 _ T188.heap _
            rw [eh188]
            exact ⟨rfl, N188⟩
    · skip
      have go194 : Go p e below s₁ F0 T18 (mkF m 95 #[vi p1, vi p2, vi p3, vi b, vi (0 : Int32), vi l0, vi l1, vi l2, vi (3 : Int32), vi k0, vi k1, vi k2, vr b_18, .unset, .unset, .unset] []) := by rw [hcs22] at go21; exact go21
      have go195 : Go p e below s₁ F0 T18 (mkF m 103 #[vi p1, vi p2, vi p3, vi b, vi (0 : Int32), vi l0, vi l1, vi l2, vi (3 : Int32), vi k0, vi k1, vi k2, vr b_18, .unset, .unset, .unset] [(.int k2), (.int k1), (.int k0), (.int (3 : Int32))]) := by
        intro t_ k_
        refine go194 t_ ?_
        refine o_iload X18 hx (hb hby at_95) rfl ?_
        refine o_iload X18 hx (hb hby at_97) rfl ?_
        refine o_iload X18 hx (hb hby at_99) rfl ?_
        refine o_iload X18 hx (hb hby at_101) rfl ?_
        exact k_
      obtain ⟨_, _, ⟨T196, L196, k196, n196⟩, -, X196, ⟨Lc196, hQ196, l196, y196, z196⟩, st196⟩ := Jvm.LawKit.callS X18 hx (y := y_1) hown (mvT hZ (own_w hw 0 rfl)) (mvT hZ (own_w hw 1 rfl)) (mvT hZ (own_w hw 2 rfl)) (mvT hZ (own_w hw 3 rfl)) (by decide) (backOf (W := 0) (rm1_3 l Z a0 hw [] k0 k1 k2 (T18.heap) n0 Z19 ) hZ (own_w hw 3 rfl) (own_w hw 2 rfl) (by decide) (by decide)) (g := (mkF m 103 #[vi p1, vi p2, vi p3, vi b, vi (0 : Int32), vi l0, vi l1, vi l2, vi (3 : Int32), vi k0, vi k1, vi k2, vr b_18, .unset, .unset, .unset] [(.int k2), (.int k1), (.int k0), (.int (3 : Int32))])) rfl (by rw [hml]; rfl) (argsL := [(.int (3 : Int32)), (.int k0), (.int k1), (.int k2)]) (rest := []) (lenOf pd0_0 rfl) rfl (by show 2 * 0 + _ ≤ _; exact Nat.le_of_eq rfl) (hb hby at_103) (fun _ _ => ⟨rfl, rfl, (by decide : 1 + 1 ≤ _), (by decide : 0 + 3 ≤ _)⟩)
      dsimp only [Pt.U, Pt.locs, Pt.cells, Pt.slots] at X196 l196 y196 z196 st196 hQ196
      subst l196 y196 z196
      obtain ⟨b_196, kb_196, rfl, Nq196, Kc196, hb_196, V_196⟩ := hQ196
      have N196 := Fr.app N18 Nq196
      have ne197 : b_18 ≠ b_196 := Nat.ne_of_lt (Nat.lt_of_lt_of_le V_18.lt hb_196)
      have g_b_196 : n0 ≤ b_196 := Nat.le_trans Z19 hb_196
      have Z198 : n0 ≤ T196.heap.size := Nat.le_trans Z19 Kc196.1
      have go199 : Go p e below s₁ F0 T196 (mkF m 106 #[vi p1, vi p2, vi p3, vi b, vi (0 : Int32), vi l0, vi l1, vi l2, vi (3 : Int32), vi k0, vi k1, vi k2, vr b_18, .unset, .unset, .unset] [(.ref b_196)]) := fun t_ k_ => go195 t_ (st196 t_ k_)
      have go200 : Go p e below s₁ F0 T196 (mkF m 108 #[vi p1, vi p2, vi p3, vi b, vi (0 : Int32), vi l0, vi l1, vi l2, vi (3 : Int32), vi k0, vi k1, vi k2, vr b_18, vr b_196, .unset, .unset] []) := by
        intro t_ k_
        refine go199 t_ ?_
        refine o_astore X196 hx (hb hby at_106) rfl (L' := #[vi p1, vi p2, vi p3, vi b, vi (0 : Int32), vi l0, vi l1, vi l2, vi (3 : Int32), vi k0, vi k1, vi k2, vr b_18, vr b_196, .unset, .unset]) rfl ?_
        exact k_
      obtain ⟨T201, h201, X201, e201, E201, A201, D201, -, st201⟩ := newO X196 hx hZ hown (own_w hw 5 rfl) (own_w hw 6 rfl) (own_w hw 7 rfl) rfl (g := (mkF m 108 #[vi p1, vi p2, vi p3, vi b, vi (0 : Int32), vi l0, vi l1, vi l2, vi (3 : Int32), vi k0, vi k1, vi k2, vr b_18, vr b_196, .unset, .unset] [])) rfl (hb hby at_108) (by decide) (by decide)
      obtain ⟨b201, gz201⟩ : ∃ z, z = T196.heap.size := ⟨_, rfl⟩
      rw [← gz201] at A201 D201 st201
      have F202 : Arv Z T196.heap b_18 kb_18 .int (0 : Int32) [] (.int (0 : Int32)) := (V_18.keep Kc196 nin0)
      have ne203 : b_18 ≠ b201 := Nat.ne_of_lt (Nat.lt_of_lt_of_le F202.lt (Nat.le_of_eq gz201.symm))
      have ne204 : b_196 ≠ b201 := Nat.ne_of_lt (Nat.lt_of_lt_of_le V_196.lt (Nat.le_of_eq gz201.symm))
      have g_b201 : n0 ≤ b201 := Nat.le_trans Z198 (Nat.le_of_eq gz201.symm)
      have Z205 : n0 ≤ h201.size := Nat.le_trans Z198 E201.1
      have F206 : Fld Z h201 b201 c_0 "id" "J" (.long (0 : Int64)) := D201 (Or.inr (own_w hw 21 rfl)) (ty := .long) (by decide)
      have F207 : Fld Z h201 b201 c_0 "power" "J" (.long (0 : Int64)) := D201 (Or.inr (own_w hw 23 rfl)) (ty := .long) (by decide)
      have F208 : Fld Z h201 b201 c_0 "units" "[I" .null := D201 (Or.inr (own_w hw 25 rfl)) (ty := (.array .int)) (by decide)
      have F209 : Fld Z h201 b201 c_0 "licences" "[I" .null := D201 (Or.inr (own_w hw 27 rfl)) (ty := (.array .int)) (by decide)
      have go210 : Go p e below s₁ F0 T201 (mkF m 111 #[vi p1, vi p2, vi p3, vi b, vi (0 : Int32), vi l0, vi l1, vi l2, vi (3 : Int32), vi k0, vi k1, vi k2, vr b_18, vr b_196, .unset, .unset] [(.ref b201)]) := fun t_ k_ => go200 t_ (st201 t_ k_)
      have go211 : Go p e below s₁ F0 T201 (mkF m 117 #[vi p1, vi p2, vi p3, vi b, vi (0 : Int32), vi l0, vi l1, vi l2, vi (3 : Int32), vi k0, vi k1, vi k2, vr b_18, vr b_196, .unset, .unset] [(.int (0 : Int32)), (.long (1000000 : Int64)), (.long (0 : Int64)), (.ref b201), (.ref b201)]) := by
        intro t_ k_
        refine go210 t_ ?_
        refine o_dup X201 hx (hb hby at_111) rfl ?_
        refine o_lconst X201 hx (hb hby at_112) (v := 0) rfl ?_
        refine o_ldc2 X201 hx hown (mvT hZ (own_w hw 8 rfl)) (hb hby at_113) ?_
        refine o_iconst X201 hx (hb hby at_116) (v := 0) rfl ?_
        exact k_
      obtain ⟨T212, h212, k212, X212, e212, E212, A212, st212⟩ := newP X201 hx hZ (own_w hw 4 rfl) e201 (g := (mkF m 117 #[vi p1, vi p2, vi p3, vi b, vi (0 : Int32), vi l0, vi l1, vi l2, vi (3 : Int32), vi k0, vi k1, vi k2, vr b_18, vr b_196, .unset, .unset] [(.int (0 : Int32)), (.long (1000000 : Int64)), (.long (0 : Int64)), (.ref b201), (.ref b201)])) rfl (hb hby at_117) rfl (by decide) (cap := 0) (by decide) (by decide) (by decide) (by decide)
      obtain ⟨b212, gz212⟩ : ∃ z, z = h201.size := ⟨_, rfl⟩
      rw [← gz212] at A212 st212
      have F213 : Arv Z h201 b_18 kb_18 .int (0 : Int32) [] (.int (0 : Int32)) := (F202.ext E201)
      have ne214 : b_18 ≠ b212 := Nat.ne_of_lt (Nat.lt_of_lt_of_le F213.lt (Nat.le_of_eq gz212.symm))
      have F215 : Arv Z h201 b_196 kb_196 .int (3 : Int32) [(.int k0), (.int k1), (.int k2)] (.int (0 : Int32)) := (V_196.ext E201)
      have ne216 : b_196 ≠ b212 := Nat.ne_of_lt (Nat.lt_of_lt_of_le F215.lt (Nat.le_of_eq gz212.symm))
      have ne217 : b201 ≠ b212 := Nat.ne_of_lt (Nat.lt_of_lt_of_le A201.lt (Nat.le_of_eq gz212.symm))
      have g_b212 : n0 ≤ b212 := Nat.le_trans Z205 (Nat.le_of_eq gz212.symm)
      have Z218 : n0 ≤ h212.size := Nat.le_trans Z205 E212.1
      have V212 : Arv Z h212 b212 k212 .int (0 : Int32) [] (.int (0 : Int32)) := (Arv.new A212 (by decide)).pad (pad_rep [] (.int (0 : Int32)) 0)
      have go219 : Go p e below s₁ F0 T212 (mkF m 119 #[vi p1, vi p2, vi p3, vi b, vi (0 : Int32), vi l0, vi l1, vi l2, vi (3 : Int32), vi k0, vi k1, vi k2, vr b_18, vr b_196, .unset, .unset] [(.ref b212), (.long (1000000 : Int64)), (.long (0 : Int64)), (.ref b201), (.ref b201)]) := fun t_ k_ => go211 t_ (st212 t_ k_)
      have F220 : Exa Z h212 b201 c_0 := (A201.ext E212)
      have F221 : Fld Z h212 b201 c_0 "id" "J" (.long (0 : Int64)) := (F206.ext E212)
      have F222 : Fld Z h212 b201 c_0 "power" "J" (.long (0 : Int64)) := (F207.ext E212)
      have F223 : Fld Z h212 b201 c_0 "units" "[I" .null := (F208.ext E212)
      have F224 : Fld Z h212 b201 c_0 "licences" "[I" .null := (F209.ext E212)
      have go225 : Go p e below s₁ F0 T212 (mkF m 121 #[vi p1, vi p2, vi p3, vi b, vi (0 : Int32), vi l0, vi l1, vi l2, vi (3 : Int32), vi k0, vi k1, vi k2, vr b_18, vr b_196, .unset, .unset] [(.ref b_18), (.ref b212), (.long (1000000 : Int64)), (.long (0 : Int64)), (.ref b201), (.ref b201)]) := by
        intro t_ k_
        refine go219 t_ ?_
        refine o_aload X212 hx (hb hby at_119) rfl rfl ?_
        exact k_
      obtain ⟨_, _, ⟨T226, L226, k226, n226⟩, -, X226, ⟨Lc226, hQ226, l226, y226, z226⟩, st226⟩ := X212.specialBack hx (y := y_2) rfl hown (mvT hZ (own_w hw 9 rfl)) (mvT hZ (own_w hw 10 rfl)) (mvT hZ (own_w hw 11 rfl)) (by decide) (backOf (W := 1) (rm2 l Z a0 hw [] b201 (0 : Int64) (1000000 : Int64) b212 b_18 h212 n0 Z218 F220 F221 F222 F223 F224 g_b201) hZ (own_w hw 11 rfl) (own_w hw 7 rfl) (by decide) (by decide)) (g := (mkF m 121 #[vi p1, vi p2, vi p3, vi b, vi (0 : Int32), vi l0, vi l1, vi l2, vi (3 : Int32), vi k0, vi k1, vi k2, vr b_18, vr b_196, .unset, .unset] [(.ref b_18), (.ref b212), (.long (1000000 : Int64)), (.long (0 : Int64)), (.ref b201), (.ref b201)])) rfl (by rw [hml]; rfl) (Steps.refl _) (a := b201) (argsL := [(.long (0 : Int64)), (.long (1000000 : Int64)), (.ref b212), (.ref b_18)]) (rest := [(.ref b201)]) (lenOf pd0_1 rfl) rfl (by show 2 * 0 + _ ≤ _; exact Nat.le_of_eq rfl) (hb hby at_121) (fun _ _ => ⟨rfl, e212, (by decide : 4 + 0 ≤ _), (by decide : 7 + 0 ≤ _)⟩)
      dsimp only [Pt.U, Pt.locs, Pt.cells, Pt.slots] at X226 l226 y226 z226 st226 hQ226
      subst l226 y226 z226
      obtain ⟨rfl, Nq226, Kc226, F4_226⟩ := hQ226
      have N226 := Fr.app N196 Nq226
      have Z227 : n0 ≤ T226.heap.size := Nat.le_trans Z218 Kc226.1
      have go228 : Go p e below s₁ F0 T226 (mkF m 124 #[vi p1, vi p2, vi p3, vi b, vi (0 : Int32), vi l0, vi l1, vi l2, vi (3 : Int32), vi k0, vi k1, vi k2, vr b_18, vr b_196, .unset, .unset] [(.ref b201)]) := fun t_ k_ => go225 t_ (st226.trans k_)
      have go229 : Go p e below s₁ F0 T226 (mkF m 142 #[vi p1, vi p2, vi p3, vi b, vi (0 : Int32), vi l0, vi l1, vi l2, vi (3 : Int32), vi k0, vi k1, vi k2, vr b_18, vr b_196, vr b201, .unset] [(.int k0), (.int l2), (.int l1), (.int l0), (.int (0 : Int32))]) := by
        intro t_ k_
        refine go228 t_ ?_
        refine o_astore X226 hx (hb hby at_124) rfl (L' := #[vi p1, vi p2, vi p3, vi b, vi (0 : Int32), vi l0, vi l1, vi l2, vi (3 : Int32), vi k0, vi k1, vi k2, vr b_18, vr b_196, vr b201, .unset]) rfl ?_
        refine o_iload X226 hx (hb hby at_126) rfl ?_
        refine o_iconst X226 hx (hb hby at_128) (v := 1) rfl ?_
        refine o_icmpNo X226 hx (hb hby at_129) (flt (by decide : ¬ ((3 : Int32) < (1 : Int32)))).1 ?_
        refine o_iload X226 hx (hb hby at_132) rfl ?_
        refine o_iload X226 hx (hb hby at_134) rfl ?_
        refine o_iload X226 hx (hb hby at_136) rfl ?_
        refine o_iload X226 hx (hb hby at_138) rfl ?_
        refine o_iload X226 hx (hb hby at_140) rfl ?_
        exact k_
      obtain ⟨_, _, ⟨T230, L230, k230, n230⟩, -, X230, ⟨Lc230, hQ230, l230, y230, z230⟩, st230⟩ := Jvm.LawKit.callS X226 hx (y := y_3) hown (mvT hZ (own_w hw 28 rfl)) (mvT hZ (own_w hw 29 rfl)) (mvT hZ (own_w hw 2 rfl)) (mvT hZ (own_w hw 30 rfl)) (by decide) (backOf (W := 0) (rm5_0 l Z a0 hw [] l0 l1 l2 k0 (T226.heap) n0 Z227 ) hZ (own_w hw 30 rfl) (own_w hw 2 rfl) (by decide) (by decide)) (g := (mkF m 142 #[vi p1, vi p2, vi p3, vi b, vi (0 : Int32), vi l0, vi l1, vi l2, vi (3 : Int32), vi k0, vi k1, vi k2, vr b_18, vr b_196, vr b201, .unset] [(.int k0), (.int l2), (.int l1), (.int l0), (.int (0 : Int32))])) rfl (by rw [hml]; rfl) (argsL := [(.int (0 : Int32)), (.int l0), (.int l1), (.int l2), (.int k0)]) (rest := []) (lenOf pd0_3 rfl) rfl (by show 2 * 0 + _ ≤ _; exact Nat.le_of_eq rfl) (hb hby at_142) (fun _ _ => ⟨rfl, rfl, (by decide : 4 + 0 ≤ _), (by decide : 7 + 0 ≤ _)⟩)
      dsimp only [Pt.U, Pt.locs, Pt.cells, Pt.slots] at X230 l230 y230 z230 st230 hQ230
      subst l230 y230 z230
      obtain ⟨rfl, Nq230, eh230⟩ := hQ230
      have N230 := Fr.app N226 Nq230
      have go231 : Go p e below s₁ F0 T230 (mkF m 145 #[vi p1, vi p2, vi p3, vi b, vi (0 : Int32), vi l0, vi l1, vi l2, vi (3 : Int32), vi k0, vi k1, vi k2, vr b_18, vr b_196, vr b201, .unset] [(.int (f5_0 l0 l1 l2 k0))]) := fun t_ k_ => go229 t_ (st230 t_ k_)
      by_cases hc145_232 : (f5_0 l0 l1 l2 k0) = (0 : Int32)
      · skip
        have F233 : Arv Z T226.heap b_18 kb_18 .int (0 : Int32) [] (.int (0 : Int32)) := ((F213.ext E212).keep Kc226 (ninS ne203 nin0))
        have F234 : Arv Z T226.heap b_196 kb_196 .int (3 : Int32) [(.int k0), (.int k1), (.int k2)] (.int (0 : Int32)) := ((F215.ext E212).keep Kc226 (ninS ne204 nin0))
        have go235 : Go p e below s₁ F0 T230 (mkF m 203 #[vi p1, vi p2, vi p3, vi b, vi (0 : Int32), vi l0, vi l1, vi l2, vi (3 : Int32), vi k0, vi k1, vi k2, vr b_18, vr b_196, vr b201, vi (0 : Int32)] [(.ref b_196), (.ref b201)]) := by
          intro t_ k_
          refine go231 t_ ?_
          refine o_ifYes X230 hx (hb hby at_145) (pc' := 196) rfl (by decide) ((if0 _ _).trans (teq hc145_232).1) ?_
          refine o_iconst X230 hx (hb hby at_196) (v := 0) rfl ?_
          refine o_istore X230 hx (hb hby at_197) (L' := #[vi p1, vi p2, vi p3, vi b, vi (0 : Int32), vi l0, vi l1, vi l2, vi (3 : Int32), vi k0, vi k1, vi k2, vr b_18, vr b_196, vr b201, vi (0 : Int32)]) rfl ?_
          refine o_aload X230 hx (hb hby at_199) rfl rfl ?_
          refine o_aload X230 hx (hb hby at_201) rfl rfl ?_
          exact k_
        have F237 : Exa Z T226.heap b201 c_0 := (F220.keep Kc226)
        obtain ⟨cq236, kq236, q236a, q236b, q236c⟩ := isOf hZ eh230 F237
        obtain ⟨_, _, ⟨T236, L236, k236, n236⟩, -, X236, ⟨Lc236, hQ236, l236, y236, z236⟩, st236⟩ := X230.virtualBack hx (y := y_4) (z := y_4) hown (mvT hZ (own_w hw 31 rfl)) (mvT hZ (own_w hw 32 rfl)) (notFace_of_selects (args := #[]) (mvT hZ (own_w hw 34 rfl))) (mvT hZ (own_w hw 34 rfl)) (mvT hZ (own_w hw 33 rfl)) (by decide) (backOf (W := 0) (rm6_0_3 l Z a0 hw [] b201 b_196 b_18 kb_18 kb_196 k0 k1 k2 (T226.heap) n0 Z227 F4_226 F233 F234 (own_s0 h_b h_k0 h_k1) (own_s1 h_b h_k0 h_k1 h_k2)) hZ (own_w hw 35 rfl) (own_w hw 7 rfl) (by decide) (by decide)) q236a q236c (g := (mkF m 203 #[vi p1, vi p2, vi p3, vi b, vi (0 : Int32), vi l0, vi l1, vi l2, vi (3 : Int32), vi k0, vi k1, vi k2, vr b_18, vr b_196, vr b201, vi (0 : Int32)] [(.ref b_196), (.ref b201)])) rfl (by rw [hml]; rfl) (Steps.refl _) (argsL := [(.ref b_196)]) (rest := []) (lenOf pd0_2 rfl) rfl (by show 2 * 0 + _ ≤ _; exact Nat.le_of_eq rfl) (hb hby at_203) (fun _ _ => ⟨rfl, eh230, (by decide : 4 + 0 ≤ _), (by decide : 7 + 0 ≤ _)⟩)
        dsimp only [Pt.U, Pt.locs, Pt.cells, Pt.slots] at X236 l236 y236 z236 st236 hQ236
        subst l236 y236 z236
        obtain ⟨rfl, Nq236, eh236⟩ := hQ236
        have N236 := Fr.app N230 Nq236
        have go238 : Go p e below s₁ F0 T236 (mkF m 206 #[vi p1, vi p2, vi p3, vi b, vi (0 : Int32), vi l0, vi l1, vi l2, vi (3 : Int32), vi k0, vi k1, vi k2, vr b_18, vr b_196, vr b201, vi (0 : Int32)] [(.int (f6_0_3 k0 k1 k2))]) := fun t_ k_ => go235 t_ (st236.trans k_)
        have go240 : Go p e below s₁ F0 T236 (mkF m 208 #[vi p1, vi p2, vi p3, vi b, vi (0 : Int32), vi l0, vi l1, vi l2, vi (3 : Int32), vi k0, vi k1, vi k2, vr b_18, vr b_196, vr b201, vi (0 : Int32)] [(.int (0 : Int32)), (.int (f6_0_3 k0 k1 k2))]) := by
          intro t_ k_
          refine go238 t_ ?_
          refine o_iload X236 hx (hb hby at_206) rfl ?_
          exact k_
        have hd239 : (f6_0_3 k0 k1 k2) = (0 : Int32) := own_no_0_3_0 l0 l1 l2 k0 k1 k2 (own_s0 h_b h_k0 h_k1) (own_s1 h_b h_k0 h_k1 h_k2) hc145_232
        have go241 : Go p e below s₁ F0 T236 (mkF m 216 #[vi p1, vi p2, vi p3, vi b, vi (0 : Int32), vi l0, vi l1, vi l2, vi (3 : Int32), vi k0, vi k1, vi k2, vr b_18, vr b_196, vr b201, vi (0 : Int32)] [(.int (1 : Int32))]) := by
          intro t_ k_
          refine go240 t_ ?_
          refine o_icmpNo X236 hx (hb hby at_208) (teq hd239).2 ?_
          refine o_iconst X236 hx (hb hby at_211) (v := 1) rfl ?_
          refine o_goto X236 hx (hb hby at_212) (pc' := 216) rfl (by decide) ?_
          exact k_
        obtain ⟨fs, hr, hrun, hended, hW, hsame⟩ := X236.leave (v := some (.int (1 : Int32))) (fun h => by rw [Bd.returns] at h; cases h)
        refine ⟨_, _, pre0 _ (go241 _ ?_), hrun, hended, _, _, rfl, ?_, ⟨_, rfl⟩, hW, hsame.mono (by decide) (by decide)⟩
        · skip
          exact retN X236 hx (t := .boolean) Bd.returns (by simp) (hb hby at_216) hr
        · show Q0 Z p1 p2 p3 h0 n0 _ T236.heap _
          rw [eh236]
          exact ⟨rfl, N236⟩
      · skip
        have go242 : Go p e below s₁ F0 T230 (mkF m 164 #[vi p1, vi p2, vi p3, vi b, vi (0 : Int32), vi l0, vi l1, vi l2, vi (3 : Int32), vi k0, vi k1, vi k2, vr b_18, vr b_196, vr b201, .unset] [(.int k1), (.int l2), (.int l1), (.int l0), (.int (0 : Int32))]) := by
          intro t_ k_
          refine go231 t_ ?_
          refine o_ifNo X230 hx (hb hby at_145) ((if0 _ _).trans (feq hc145_232).1) ?_
          refine o_iload X230 hx (hb hby at_148) rfl ?_
          refine o_iconst X230 hx (hb hby at_150) (v := 2) rfl ?_
          refine o_icmpNo X230 hx (hb hby at_151) (flt (by decide : ¬ ((3 : Int32) < (2 : Int32)))).1 ?_
          refine o_iload X230 hx (hb hby at_154) rfl ?_
          refine o_iload X230 hx (hb hby at_156) rfl ?_
          refine o_iload X230 hx (hb hby at_158) rfl ?_
          refine o_iload X230 hx (hb hby at_160) rfl ?_
          refine o_iload X230 hx (hb hby at_162) rfl ?_
          exact k_
        obtain ⟨_, _, ⟨T243, L243, k243, n243⟩, -, X243, ⟨Lc243, hQ243, l243, y243, z243⟩, st243⟩ := Jvm.LawKit.callS X230 hx (y := y_3) hown (mvT hZ (own_w hw 28 rfl)) (mvT hZ (own_w hw 29 rfl)) (mvT hZ (own_w hw 2 rfl)) (mvT hZ (own_w hw 30 rfl)) (by decide) (backOf (W := 0) (rm5_0 l Z a0 hw [] l0 l1 l2 k1 (T226.heap) n0 Z227 ) hZ (own_w hw 30 rfl) (own_w hw 2 rfl) (by decide) (by decide)) (g := (mkF m 164 #[vi p1, vi p2, vi p3, vi b, vi (0 : Int32), vi l0, vi l1, vi l2, vi (3 : Int32), vi k0, vi k1, vi k2, vr b_18, vr b_196, vr b201, .unset] [(.int k1), (.int l2), (.int l1), (.int l0), (.int (0 : Int32))])) rfl (by rw [hml]; rfl) (argsL := [(.int (0 : Int32)), (.int l0), (.int l1), (.int l2), (.int k1)]) (rest := []) (lenOf pd0_3 rfl) rfl (by show 2 * 0 + _ ≤ _; exact Nat.le_of_eq rfl) (hb hby at_164) (fun _ _ => ⟨rfl, eh230, (by decide : 4 + 0 ≤ _), (by decide : 7 + 0 ≤ _)⟩)
        dsimp only [Pt.U, Pt.locs, Pt.cells, Pt.slots] at X243 l243 y243 z243 st243 hQ243
        subst l243 y243 z243
        obtain ⟨rfl, Nq243, eh243⟩ := hQ243
        have N243 := Fr.app N230 Nq243
        have go244 : Go p e below s₁ F0 T243 (mkF m 167 #[vi p1, vi p2, vi p3, vi b, vi (0 : Int32), vi l0, vi l1, vi l2, vi (3 : Int32), vi k0, vi k1, vi k2, vr b_18, vr b_196, vr b201, .unset] [(.int (f5_0 l0 l1 l2 k1))]) := fun t_ k_ => go242 t_ (st243 t_ k_)
        by_cases hc167_245 : (f5_0 l0 l1 l2 k1) = (0 : Int32)
        · skip
          have F246 : Arv Z T226.heap b_18 kb_18 .int (0 : Int32) [] (.int (0 : Int32)) := ((F213.ext E212).keep Kc226 (ninS ne203 nin0))
          have F247 : Arv Z T226.heap b_196 kb_196 .int (3 : Int32) [(.int k0), (.int k1), (.int k2)] (.int (0 : Int32)) := ((F215.ext E212).keep Kc226 (ninS ne204 nin0))
          have go248 : Go p e below s₁ F0 T243 (mkF m 203 #[vi p1, vi p2, vi p3, vi b, vi (0 : Int32), vi l0, vi l1, vi l2, vi (3 : Int32), vi k0, vi k1, vi k2, vr b_18, vr b_196, vr b201, vi (0 : Int32)] [(.ref b_196), (.ref b201)]) := by
            intro t_ k_
            refine go244 t_ ?_
            refine o_ifYes X243 hx (hb hby at_167) (pc' := 196) rfl (by decide) ((if0 _ _).trans (teq hc167_245).1) ?_
            refine o_iconst X243 hx (hb hby at_196) (v := 0) rfl ?_
            refine o_istore X243 hx (hb hby at_197) (L' := #[vi p1, vi p2, vi p3, vi b, vi (0 : Int32), vi l0, vi l1, vi l2, vi (3 : Int32), vi k0, vi k1, vi k2, vr b_18, vr b_196, vr b201, vi (0 : Int32)]) rfl ?_
            refine o_aload X243 hx (hb hby at_199) rfl rfl ?_
            refine o_aload X243 hx (hb hby at_201) rfl rfl ?_
            exact k_
          have F250 : Exa Z T226.heap b201 c_0 := (F220.keep Kc226)
          obtain ⟨cq249, kq249, q249a, q249b, q249c⟩ := isOf hZ eh243 F250
          obtain ⟨_, _, ⟨T249, L249, k249, n249⟩, -, X249, ⟨Lc249, hQ249, l249, y249, z249⟩, st249⟩ := X243.virtualBack hx (y := y_4) (z := y_4) hown (mvT hZ (own_w hw 31 rfl)) (mvT hZ (own_w hw 32 rfl)) (notFace_of_selects (args := #[]) (mvT hZ (own_w hw 34 rfl))) (mvT hZ (own_w hw 34 rfl)) (mvT hZ (own_w hw 33 rfl)) (by decide) (backOf (W := 0) (rm6_0_3 l Z a0 hw [] b201 b_196 b_18 kb_18 kb_196 k0 k1 k2 (T226.heap) n0 Z227 F4_226 F246 F247 (own_s0 h_b h_k0 h_k1) (own_s1 h_b h_k0 h_k1 h_k2)) hZ (own_w hw 35 rfl) (own_w hw 7 rfl) (by decide) (by decide)) q249a q249c (g := (mkF m 203 #[vi p1, vi p2, vi p3, vi b, vi (0 : Int32), vi l0, vi l1, vi l2, vi (3 : Int32), vi k0, vi k1, vi k2, vr b_18, vr b_196, vr b201, vi (0 : Int32)] [(.ref b_196), (.ref b201)])) rfl (by rw [hml]; rfl) (Steps.refl _) (argsL := [(.ref b_196)]) (rest := []) (lenOf pd0_2 rfl) rfl (by show 2 * 0 + _ ≤ _; exact Nat.le_of_eq rfl) (hb hby at_203) (fun _ _ => ⟨rfl, eh243, (by decide : 4 + 0 ≤ _), (by decide : 7 + 0 ≤ _)⟩)
          dsimp only [Pt.U, Pt.locs, Pt.cells, Pt.slots] at X249 l249 y249 z249 st249 hQ249
          subst l249 y249 z249
          obtain ⟨rfl, Nq249, eh249⟩ := hQ249
          have N249 := Fr.app N243 Nq249
          have go251 : Go p e below s₁ F0 T249 (mkF m 206 #[vi p1, vi p2, vi p3, vi b, vi (0 : Int32), vi l0, vi l1, vi l2, vi (3 : Int32), vi k0, vi k1, vi k2, vr b_18, vr b_196, vr b201, vi (0 : Int32)] [(.int (f6_0_3 k0 k1 k2))]) := fun t_ k_ => go248 t_ (st249.trans k_)
          have go253 : Go p e below s₁ F0 T249 (mkF m 208 #[vi p1, vi p2, vi p3, vi b, vi (0 : Int32), vi l0, vi l1, vi l2, vi (3 : Int32), vi k0, vi k1, vi k2, vr b_18, vr b_196, vr b201, vi (0 : Int32)] [(.int (0 : Int32)), (.int (f6_0_3 k0 k1 k2))]) := by
            intro t_ k_
            refine go251 t_ ?_
            refine o_iload X249 hx (hb hby at_206) rfl ?_
            exact k_
          have hd252 : (f6_0_3 k0 k1 k2) = (0 : Int32) := own_no_0_3_1 l0 l1 l2 k0 k1 k2 (own_s0 h_b h_k0 h_k1) (own_s1 h_b h_k0 h_k1 h_k2) hc167_245
          have go254 : Go p e below s₁ F0 T249 (mkF m 216 #[vi p1, vi p2, vi p3, vi b, vi (0 : Int32), vi l0, vi l1, vi l2, vi (3 : Int32), vi k0, vi k1, vi k2, vr b_18, vr b_196, vr b201, vi (0 : Int32)] [(.int (1 : Int32))]) := by
            intro t_ k_
            refine go253 t_ ?_
            refine o_icmpNo X249 hx (hb hby at_208) (teq hd252).2 ?_
            refine o_iconst X249 hx (hb hby at_211) (v := 1) rfl ?_
            refine o_goto X249 hx (hb hby at_212) (pc' := 216) rfl (by decide) ?_
            exact k_
          obtain ⟨fs, hr, hrun, hended, hW, hsame⟩ := X249.leave (v := some (.int (1 : Int32))) (fun h => by rw [Bd.returns] at h; cases h)
          refine ⟨_, _, pre0 _ (go254 _ ?_), hrun, hended, _, _, rfl, ?_, ⟨_, rfl⟩, hW, hsame.mono (by decide) (by decide)⟩
          · skip
            exact retN X249 hx (t := .boolean) Bd.returns (by simp) (hb hby at_216) hr
          · show Q0 Z p1 p2 p3 h0 n0 _ T249.heap _
            rw [eh249]
            exact ⟨rfl, N249⟩
        · skip
          have go255 : Go p e below s₁ F0 T243 (mkF m 186 #[vi p1, vi p2, vi p3, vi b, vi (0 : Int32), vi l0, vi l1, vi l2, vi (3 : Int32), vi k0, vi k1, vi k2, vr b_18, vr b_196, vr b201, .unset] [(.int k2), (.int l2), (.int l1), (.int l0), (.int (0 : Int32))]) := by
            intro t_ k_
            refine go244 t_ ?_
            refine o_ifNo X243 hx (hb hby at_167) ((if0 _ _).trans (feq hc167_245).1) ?_
            refine o_iload X243 hx (hb hby at_170) rfl ?_
            refine o_iconst X243 hx (hb hby at_172) (v := 3) rfl ?_
            refine o_icmpNo X243 hx (hb hby at_173) (flt (by decide : ¬ ((3 : Int32) < (3 : Int32)))).1 ?_
            refine o_iload X243 hx (hb hby at_176) rfl ?_
            refine o_iload X243 hx (hb hby at_178) rfl ?_
            refine o_iload X243 hx (hb hby at_180) rfl ?_
            refine o_iload X243 hx (hb hby at_182) rfl ?_
            refine o_iload X243 hx (hb hby at_184) rfl ?_
            exact k_
          obtain ⟨_, _, ⟨T256, L256, k256, n256⟩, -, X256, ⟨Lc256, hQ256, l256, y256, z256⟩, st256⟩ := Jvm.LawKit.callS X243 hx (y := y_3) hown (mvT hZ (own_w hw 28 rfl)) (mvT hZ (own_w hw 29 rfl)) (mvT hZ (own_w hw 2 rfl)) (mvT hZ (own_w hw 30 rfl)) (by decide) (backOf (W := 0) (rm5_0 l Z a0 hw [] l0 l1 l2 k2 (T226.heap) n0 Z227 ) hZ (own_w hw 30 rfl) (own_w hw 2 rfl) (by decide) (by decide)) (g := (mkF m 186 #[vi p1, vi p2, vi p3, vi b, vi (0 : Int32), vi l0, vi l1, vi l2, vi (3 : Int32), vi k0, vi k1, vi k2, vr b_18, vr b_196, vr b201, .unset] [(.int k2), (.int l2), (.int l1), (.int l0), (.int (0 : Int32))])) rfl (by rw [hml]; rfl) (argsL := [(.int (0 : Int32)), (.int l0), (.int l1), (.int l2), (.int k2)]) (rest := []) (lenOf pd0_3 rfl) rfl (by show 2 * 0 + _ ≤ _; exact Nat.le_of_eq rfl) (hb hby at_186) (fun _ _ => ⟨rfl, eh243, (by decide : 4 + 0 ≤ _), (by decide : 7 + 0 ≤ _)⟩)
          dsimp only [Pt.U, Pt.locs, Pt.cells, Pt.slots] at X256 l256 y256 z256 st256 hQ256
          subst l256 y256 z256
          obtain ⟨rfl, Nq256, eh256⟩ := hQ256
          have N256 := Fr.app N243 Nq256
          have go257 : Go p e below s₁ F0 T256 (mkF m 189 #[vi p1, vi p2, vi p3, vi b, vi (0 : Int32), vi l0, vi l1, vi l2, vi (3 : Int32), vi k0, vi k1, vi k2, vr b_18, vr b_196, vr b201, .unset] [(.int (f5_0 l0 l1 l2 k2))]) := fun t_ k_ => go255 t_ (st256 t_ k_)
          by_cases hc189_258 : (f5_0 l0 l1 l2 k2) = (0 : Int32)
          · skip
            have F259 : Arv Z T226.heap b_18 kb_18 .int (0 : Int32) [] (.int (0 : Int32)) := ((F213.ext E212).keep Kc226 (ninS ne203 nin0))
            have F260 : Arv Z T226.heap b_196 kb_196 .int (3 : Int32) [(.int k0), (.int k1), (.int k2)] (.int (0 : Int32)) := ((F215.ext E212).keep Kc226 (ninS ne204 nin0))
            have go261 : Go p e below s₁ F0 T256 (mkF m 203 #[vi p1, vi p2, vi p3, vi b, vi (0 : Int32), vi l0, vi l1, vi l2, vi (3 : Int32), vi k0, vi k1, vi k2, vr b_18, vr b_196, vr b201, vi (0 : Int32)] [(.ref b_196), (.ref b201)]) := by
              intro t_ k_
              refine go257 t_ ?_
              refine o_ifYes X256 hx (hb hby at_189) (pc' := 196) rfl (by decide) ((if0 _ _).trans (teq hc189_258).1) ?_
              refine o_iconst X256 hx (hb hby at_196) (v := 0) rfl ?_
              refine o_istore X256 hx (hb hby at_197) (L' := #[vi p1, vi p2, vi p3, vi b, vi (0 : Int32), vi l0, vi l1, vi l2, vi (3 : Int32), vi k0, vi k1, vi k2, vr b_18, vr b_196, vr b201, vi (0 : Int32)]) rfl ?_
              refine o_aload X256 hx (hb hby at_199) rfl rfl ?_
              refine o_aload X256 hx (hb hby at_201) rfl rfl ?_
              exact k_
            have F263 : Exa Z T226.heap b201 c_0 := (F220.keep Kc226)
            obtain ⟨cq262, kq262, q262a, q262b, q262c⟩ := isOf hZ eh256 F263
            obtain ⟨_, _, ⟨T262, L262, k262, n262⟩, -, X262, ⟨Lc262, hQ262, l262, y262, z262⟩, st262⟩ := X256.virtualBack hx (y := y_4) (z := y_4) hown (mvT hZ (own_w hw 31 rfl)) (mvT hZ (own_w hw 32 rfl)) (notFace_of_selects (args := #[]) (mvT hZ (own_w hw 34 rfl))) (mvT hZ (own_w hw 34 rfl)) (mvT hZ (own_w hw 33 rfl)) (by decide) (backOf (W := 0) (rm6_0_3 l Z a0 hw [] b201 b_196 b_18 kb_18 kb_196 k0 k1 k2 (T226.heap) n0 Z227 F4_226 F259 F260 (own_s0 h_b h_k0 h_k1) (own_s1 h_b h_k0 h_k1 h_k2)) hZ (own_w hw 35 rfl) (own_w hw 7 rfl) (by decide) (by decide)) q262a q262c (g := (mkF m 203 #[vi p1, vi p2, vi p3, vi b, vi (0 : Int32), vi l0, vi l1, vi l2, vi (3 : Int32), vi k0, vi k1, vi k2, vr b_18, vr b_196, vr b201, vi (0 : Int32)] [(.ref b_196), (.ref b201)])) rfl (by rw [hml]; rfl) (Steps.refl _) (argsL := [(.ref b_196)]) (rest := []) (lenOf pd0_2 rfl) rfl (by show 2 * 0 + _ ≤ _; exact Nat.le_of_eq rfl) (hb hby at_203) (fun _ _ => ⟨rfl, eh256, (by decide : 4 + 0 ≤ _), (by decide : 7 + 0 ≤ _)⟩)
            dsimp only [Pt.U, Pt.locs, Pt.cells, Pt.slots] at X262 l262 y262 z262 st262 hQ262
            subst l262 y262 z262
            obtain ⟨rfl, Nq262, eh262⟩ := hQ262
            have N262 := Fr.app N256 Nq262
            have go264 : Go p e below s₁ F0 T262 (mkF m 206 #[vi p1, vi p2, vi p3, vi b, vi (0 : Int32), vi l0, vi l1, vi l2, vi (3 : Int32), vi k0, vi k1, vi k2, vr b_18, vr b_196, vr b201, vi (0 : Int32)] [(.int (f6_0_3 k0 k1 k2))]) := fun t_ k_ => go261 t_ (st262.trans k_)
            have go266 : Go p e below s₁ F0 T262 (mkF m 208 #[vi p1, vi p2, vi p3, vi b, vi (0 : Int32), vi l0, vi l1, vi l2, vi (3 : Int32), vi k0, vi k1, vi k2, vr b_18, vr b_196, vr b201, vi (0 : Int32)] [(.int (0 : Int32)), (.int (f6_0_3 k0 k1 k2))]) := by
              intro t_ k_
              refine go264 t_ ?_
              refine o_iload X262 hx (hb hby at_206) rfl ?_
              exact k_
            have hd265 : (f6_0_3 k0 k1 k2) = (0 : Int32) := own_no_0_3_2 l0 l1 l2 k0 k1 k2 (own_s0 h_b h_k0 h_k1) (own_s1 h_b h_k0 h_k1 h_k2) hc189_258
            have go267 : Go p e below s₁ F0 T262 (mkF m 216 #[vi p1, vi p2, vi p3, vi b, vi (0 : Int32), vi l0, vi l1, vi l2, vi (3 : Int32), vi k0, vi k1, vi k2, vr b_18, vr b_196, vr b201, vi (0 : Int32)] [(.int (1 : Int32))]) := by
              intro t_ k_
              refine go266 t_ ?_
              refine o_icmpNo X262 hx (hb hby at_208) (teq hd265).2 ?_
              refine o_iconst X262 hx (hb hby at_211) (v := 1) rfl ?_
              refine o_goto X262 hx (hb hby at_212) (pc' := 216) rfl (by decide) ?_
              exact k_
            obtain ⟨fs, hr, hrun, hended, hW, hsame⟩ := X262.leave (v := some (.int (1 : Int32))) (fun h => by rw [Bd.returns] at h; cases h)
            refine ⟨_, _, pre0 _ (go267 _ ?_), hrun, hended, _, _, rfl, ?_, ⟨_, rfl⟩, hW, hsame.mono (by decide) (by decide)⟩
            · skip
              exact retN X262 hx (t := .boolean) Bd.returns (by simp) (hb hby at_216) hr
            · show Q0 Z p1 p2 p3 h0 n0 _ T262.heap _
              rw [eh262]
              exact ⟨rfl, N262⟩
          · skip
            have F268 : Arv Z T226.heap b_18 kb_18 .int (0 : Int32) [] (.int (0 : Int32)) := ((F213.ext E212).keep Kc226 (ninS ne203 nin0))
            have F269 : Arv Z T226.heap b_196 kb_196 .int (3 : Int32) [(.int k0), (.int k1), (.int k2)] (.int (0 : Int32)) := ((F215.ext E212).keep Kc226 (ninS ne204 nin0))
            have go270 : Go p e below s₁ F0 T256 (mkF m 203 #[vi p1, vi p2, vi p3, vi b, vi (0 : Int32), vi l0, vi l1, vi l2, vi (3 : Int32), vi k0, vi k1, vi k2, vr b_18, vr b_196, vr b201, vi (1 : Int32)] [(.ref b_196), (.ref b201)]) := by
              intro t_ k_
              refine go257 t_ ?_
              refine o_ifNo X256 hx (hb hby at_189) ((if0 _ _).trans (feq hc189_258).1) ?_
              refine o_iconst X256 hx (hb hby at_192) (v := 1) rfl ?_
              refine o_goto X256 hx (hb hby at_193) (pc' := 197) rfl (by decide) ?_
              refine o_istore X256 hx (hb hby at_197) (L' := #[vi p1, vi p2, vi p3, vi b, vi (0 : Int32), vi l0, vi l1, vi l2, vi (3 : Int32), vi k0, vi k1, vi k2, vr b_18, vr b_196, vr b201, vi (1 : Int32)]) rfl ?_
              refine o_aload X256 hx (hb hby at_199) rfl rfl ?_
              refine o_aload X256 hx (hb hby at_201) rfl rfl ?_
              exact k_
            have F272 : Exa Z T226.heap b201 c_0 := (F220.keep Kc226)
            obtain ⟨cq271, kq271, q271a, q271b, q271c⟩ := isOf hZ eh256 F272
            obtain ⟨_, _, ⟨T271, L271, k271, n271⟩, -, X271, ⟨Lc271, hQ271, l271, y271, z271⟩, st271⟩ := X256.virtualBack hx (y := y_4) (z := y_4) hown (mvT hZ (own_w hw 31 rfl)) (mvT hZ (own_w hw 32 rfl)) (notFace_of_selects (args := #[]) (mvT hZ (own_w hw 34 rfl))) (mvT hZ (own_w hw 34 rfl)) (mvT hZ (own_w hw 33 rfl)) (by decide) (backOf (W := 0) (rm6_0_3 l Z a0 hw [] b201 b_196 b_18 kb_18 kb_196 k0 k1 k2 (T226.heap) n0 Z227 F4_226 F268 F269 (own_s0 h_b h_k0 h_k1) (own_s1 h_b h_k0 h_k1 h_k2)) hZ (own_w hw 35 rfl) (own_w hw 7 rfl) (by decide) (by decide)) q271a q271c (g := (mkF m 203 #[vi p1, vi p2, vi p3, vi b, vi (0 : Int32), vi l0, vi l1, vi l2, vi (3 : Int32), vi k0, vi k1, vi k2, vr b_18, vr b_196, vr b201, vi (1 : Int32)] [(.ref b_196), (.ref b201)])) rfl (by rw [hml]; rfl) (Steps.refl _) (argsL := [(.ref b_196)]) (rest := []) (lenOf pd0_2 rfl) rfl (by show 2 * 0 + _ ≤ _; exact Nat.le_of_eq rfl) (hb hby at_203) (fun _ _ => ⟨rfl, eh256, (by decide : 4 + 0 ≤ _), (by decide : 7 + 0 ≤ _)⟩)
            dsimp only [Pt.U, Pt.locs, Pt.cells, Pt.slots] at X271 l271 y271 z271 st271 hQ271
            subst l271 y271 z271
            obtain ⟨rfl, Nq271, eh271⟩ := hQ271
            have N271 := Fr.app N256 Nq271
            have go273 : Go p e below s₁ F0 T271 (mkF m 206 #[vi p1, vi p2, vi p3, vi b, vi (0 : Int32), vi l0, vi l1, vi l2, vi (3 : Int32), vi k0, vi k1, vi k2, vr b_18, vr b_196, vr b201, vi (1 : Int32)] [(.int (f6_0_3 k0 k1 k2))]) := fun t_ k_ => go270 t_ (st271.trans k_)
            have go275 : Go p e below s₁ F0 T271 (mkF m 208 #[vi p1, vi p2, vi p3, vi b, vi (0 : Int32), vi l0, vi l1, vi l2, vi (3 : Int32), vi k0, vi k1, vi k2, vr b_18, vr b_196, vr b201, vi (1 : Int32)] [(.int (1 : Int32)), (.int (f6_0_3 k0 k1 k2))]) := by
              intro t_ k_
              refine go273 t_ ?_
              refine o_iload X271 hx (hb hby at_206) rfl ?_
              exact k_
            have hd274 : (f6_0_3 k0 k1 k2) = (1 : Int32) := own_yes_0_3 l0 l1 l2 k0 k1 k2 (own_s0 h_b h_k0 h_k1) (own_s1 h_b h_k0 h_k1 h_k2) hc145_232 hc167_245 hc189_258
            have go276 : Go p e below s₁ F0 T271 (mkF m 216 #[vi p1, vi p2, vi p3, vi b, vi (0 : Int32), vi l0, vi l1, vi l2, vi (3 : Int32), vi k0, vi k1, vi k2, vr b_18, vr b_196, vr b201, vi (1 : Int32)] [(.int (1 : Int32))]) := by
              intro t_ k_
              refine go275 t_ ?_
              refine o_icmpNo X271 hx (hb hby at_208) (teq hd274).2 ?_
              refine o_iconst X271 hx (hb hby at_211) (v := 1) rfl ?_
              refine o_goto X271 hx (hb hby at_212) (pc' := 216) rfl (by decide) ?_
              exact k_
            obtain ⟨fs, hr, hrun, hended, hW, hsame⟩ := X271.leave (v := some (.int (1 : Int32))) (fun h => by rw [Bd.returns] at h; cases h)
            refine ⟨_, _, pre0 _ (go276 _ ?_), hrun, hended, _, _, rfl, ?_, ⟨_, rfl⟩, hW, hsame.mono (by decide) (by decide)⟩
            · skip
              exact retN X271 hx (t := .boolean) Bd.returns (by simp) (hb hby at_216) hr
            · show Q0 Z p1 p2 p3 h0 n0 _ T271.heap _
              rw [eh271]
              exact ⟨rfl, N271⟩
  · skip
    have go277 : Go p e below s₁ F0 s₁ (mkF m 82 #[vi p1, vi p2, vi p3, vi b, vi (1 : Int32), vi l0, vi l1, vi l2, vi (p3 &&& (3 : Int32)), vi k0, vi k1, vi k2, .unset, .unset, .unset, .unset] []) := by rw [hcs15] at go14; exact go14
    have go278 : Go p e below s₁ F0 s₁ (mkF m 90 #[vi p1, vi p2, vi p3, vi b, vi (1 : Int32), vi l0, vi l1, vi l2, vi (p3 &&& (3 : Int32)), vi k0, vi k1, vi k2, .unset, .unset, .unset, .unset] [(.int l2), (.int l1), (.int l0), (.int (1 : Int32))]) := by
      intro t_ k_
      refine go277 t_ ?_
      refine o_iload X0 hx (hb hby at_82) rfl ?_
      refine o_iload X0 hx (hb hby at_84) rfl ?_
      refine o_iload X0 hx (hb hby at_86) rfl ?_
      refine o_iload X0 hx (hb hby at_88) rfl ?_
      exact k_
    obtain ⟨_, _, ⟨T279, L279, k279, n279⟩, -, X279, ⟨Lc279, hQ279, l279, y279, z279⟩, st279⟩ := Jvm.LawKit.callS X0 hx (y := y_1) hown (mvT hZ (own_w hw 0 rfl)) (mvT hZ (own_w hw 1 rfl)) (mvT hZ (own_w hw 2 rfl)) (mvT hZ (own_w hw 3 rfl)) (by decide) (backOf (W := 0) (rm1_1 l Z a0 hw [] l0 l1 l2 h0 n0 Z0 ) hZ (own_w hw 3 rfl) (own_w hw 2 rfl) (by decide) (by decide)) (g := (mkF m 90 #[vi p1, vi p2, vi p3, vi b, vi (1 : Int32), vi l0, vi l1, vi l2, vi (p3 &&& (3 : Int32)), vi k0, vi k1, vi k2, .unset, .unset, .unset, .unset] [(.int l2), (.int l1), (.int l0), (.int (1 : Int32))])) rfl (by rw [hml]; rfl) (argsL := [(.int (1 : Int32)), (.int l0), (.int l1), (.int l2)]) (rest := []) (lenOf pd0_0 rfl) rfl (by show 2 * 0 + _ ≤ _; exact Nat.le_of_eq rfl) (hb hby at_90) (fun _ _ => ⟨rfl, e0, (by decide : 0 + 1 ≤ _), (by decide : 0 + 1 ≤ _)⟩)
    dsimp only [Pt.U, Pt.locs, Pt.cells, Pt.slots] at X279 l279 y279 z279 st279 hQ279
    subst l279 y279 z279
    obtain ⟨b_279, kb_279, rfl, Nq279, Kc279, hb_279, V_279⟩ := hQ279
    have N279 := Fr.app N0 Nq279
    have g_b_279 : n0 ≤ b_279 := Nat.le_trans Z0 hb_279
    have Z280 : n0 ≤ T279.heap.size := Nat.le_trans Z0 Kc279.1
    have go281 : Go p e below s₁ F0 T279 (mkF m 93 #[vi p1, vi p2, vi p3, vi b, vi (1 : Int32), vi l0, vi l1, vi l2, vi (p3 &&& (3 : Int32)), vi k0, vi k1, vi k2, .unset, .unset, .unset, .unset] [(.ref b_279)]) := fun t_ k_ => go278 t_ (st279 t_ k_)
    have go282 : Go p e below s₁ F0 T279 (mkF m 95 #[vi p1, vi p2, vi p3, vi b, vi (1 : Int32), vi l0, vi l1, vi l2, vi (p3 &&& (3 : Int32)), vi k0, vi k1, vi k2, vr b_279, .unset, .unset, .unset] []) := by
      intro t_ k_
      refine go281 t_ ?_
      refine o_astore X279 hx (hb hby at_93) rfl (L' := #[vi p1, vi p2, vi p3, vi b, vi (1 : Int32), vi l0, vi l1, vi l2, vi (p3 &&& (3 : Int32)), vi k0, vi k1, vi k2, vr b_279, .unset, .unset, .unset]) rfl ?_
      exact k_
    have hcs283 : (p3 &&& (3 : Int32)) = (0 : Int32) ∨ (p3 &&& (3 : Int32)) = (1 : Int32) ∨ (p3 &&& (3 : Int32)) = (2 : Int32) ∨ (p3 &&& (3 : Int32)) = (3 : Int32) := own_4 _
    rcases hcs283 with hcs283 | hcs283 | hcs283 | hcs283
    · skip
      have go284 : Go p e below s₁ F0 T279 (mkF m 95 #[vi p1, vi p2, vi p3, vi b, vi (1 : Int32), vi l0, vi l1, vi l2, vi (0 : Int32), vi k0, vi k1, vi k2, vr b_279, .unset, .unset, .unset] []) := by rw [hcs283] at go282; exact go282
      have go285 : Go p e below s₁ F0 T279 (mkF m 103 #[vi p1, vi p2, vi p3, vi b, vi (1 : Int32), vi l0, vi l1, vi l2, vi (0 : Int32), vi k0, vi k1, vi k2, vr b_279, .unset, .unset, .unset] [(.int k2), (.int k1), (.int k0), (.int (0 : Int32))]) := by
        intro t_ k_
        refine go284 t_ ?_
        refine o_iload X279 hx (hb hby at_95) rfl ?_
        refine o_iload X279 hx (hb hby at_97) rfl ?_
        refine o_iload X279 hx (hb hby at_99) rfl ?_
        refine o_iload X279 hx (hb hby at_101) rfl ?_
        exact k_
      obtain ⟨_, _, ⟨T286, L286, k286, n286⟩, -, X286, ⟨Lc286, hQ286, l286, y286, z286⟩, st286⟩ := Jvm.LawKit.callS X279 hx (y := y_1) hown (mvT hZ (own_w hw 0 rfl)) (mvT hZ (own_w hw 1 rfl)) (mvT hZ (own_w hw 2 rfl)) (mvT hZ (own_w hw 3 rfl)) (by decide) (backOf (W := 0) (rm1_0 l Z a0 hw [] k0 k1 k2 (T279.heap) n0 Z280 ) hZ (own_w hw 3 rfl) (own_w hw 2 rfl) (by decide) (by decide)) (g := (mkF m 103 #[vi p1, vi p2, vi p3, vi b, vi (1 : Int32), vi l0, vi l1, vi l2, vi (0 : Int32), vi k0, vi k1, vi k2, vr b_279, .unset, .unset, .unset] [(.int k2), (.int k1), (.int k0), (.int (0 : Int32))])) rfl (by rw [hml]; rfl) (argsL := [(.int (0 : Int32)), (.int k0), (.int k1), (.int k2)]) (rest := []) (lenOf pd0_0 rfl) rfl (by show 2 * 0 + _ ≤ _; exact Nat.le_of_eq rfl) (hb hby at_103) (fun _ _ => ⟨rfl, rfl, (by decide : 1 + 1 ≤ _), (by decide : 1 + 0 ≤ _)⟩)
      dsimp only [Pt.U, Pt.locs, Pt.cells, Pt.slots] at X286 l286 y286 z286 st286 hQ286
      subst l286 y286 z286
      obtain ⟨b_286, kb_286, rfl, Nq286, Kc286, hb_286, V_286⟩ := hQ286
      have N286 := Fr.app N279 Nq286
      have ne287 : b_279 ≠ b_286 := Nat.ne_of_lt (Nat.lt_of_lt_of_le V_279.lt hb_286)
      have g_b_286 : n0 ≤ b_286 := Nat.le_trans Z280 hb_286
      have Z288 : n0 ≤ T286.heap.size := Nat.le_trans Z280 Kc286.1
      have go289 : Go p e below s₁ F0 T286 (mkF m 106 #[vi p1, vi p2, vi p3, vi b, vi (1 : Int32), vi l0, vi l1, vi l2, vi (0 : Int32), vi k0, vi k1, vi k2, vr b_279, .unset, .unset, .unset] [(.ref b_286)]) := fun t_ k_ => go285 t_ (st286 t_ k_)
      have go290 : Go p e below s₁ F0 T286 (mkF m 108 #[vi p1, vi p2, vi p3, vi b, vi (1 : Int32), vi l0, vi l1, vi l2, vi (0 : Int32), vi k0, vi k1, vi k2, vr b_279, vr b_286, .unset, .unset] []) := by
        intro t_ k_
        refine go289 t_ ?_
        refine o_astore X286 hx (hb hby at_106) rfl (L' := #[vi p1, vi p2, vi p3, vi b, vi (1 : Int32), vi l0, vi l1, vi l2, vi (0 : Int32), vi k0, vi k1, vi k2, vr b_279, vr b_286, .unset, .unset]) rfl ?_
        exact k_
      obtain ⟨T291, h291, X291, e291, E291, A291, D291, -, st291⟩ := newO X286 hx hZ hown (own_w hw 5 rfl) (own_w hw 6 rfl) (own_w hw 7 rfl) rfl (g := (mkF m 108 #[vi p1, vi p2, vi p3, vi b, vi (1 : Int32), vi l0, vi l1, vi l2, vi (0 : Int32), vi k0, vi k1, vi k2, vr b_279, vr b_286, .unset, .unset] [])) rfl (hb hby at_108) (by decide) (by decide)
      obtain ⟨b291, gz291⟩ : ∃ z, z = T286.heap.size := ⟨_, rfl⟩
      rw [← gz291] at A291 D291 st291
      have F292 : Arv Z T286.heap b_279 kb_279 .int (1 : Int32) [(.int l0)] (.int (0 : Int32)) := (V_279.keep Kc286 nin0)
      have ne293 : b_279 ≠ b291 := Nat.ne_of_lt (Nat.lt_of_lt_of_le F292.lt (Nat.le_of_eq gz291.symm))
      have ne294 : b_286 ≠ b291 := Nat.ne_of_lt (Nat.lt_of_lt_of_le V_286.lt (Nat.le_of_eq gz291.symm))
      have g_b291 : n0 ≤ b291 := Nat.le_trans Z288 (Nat.le_of_eq gz291.symm)
      have Z295 : n0 ≤ h291.size := Nat.le_trans Z288 E291.1
      have F296 : Fld Z h291 b291 c_0 "id" "J" (.long (0 : Int64)) := D291 (Or.inr (own_w hw 21 rfl)) (ty := .long) (by decide)
      have F297 : Fld Z h291 b291 c_0 "power" "J" (.long (0 : Int64)) := D291 (Or.inr (own_w hw 23 rfl)) (ty := .long) (by decide)
      have F298 : Fld Z h291 b291 c_0 "units" "[I" .null := D291 (Or.inr (own_w hw 25 rfl)) (ty := (.array .int)) (by decide)
      have F299 : Fld Z h291 b291 c_0 "licences" "[I" .null := D291 (Or.inr (own_w hw 27 rfl)) (ty := (.array .int)) (by decide)
      have go300 : Go p e below s₁ F0 T291 (mkF m 111 #[vi p1, vi p2, vi p3, vi b, vi (1 : Int32), vi l0, vi l1, vi l2, vi (0 : Int32), vi k0, vi k1, vi k2, vr b_279, vr b_286, .unset, .unset] [(.ref b291)]) := fun t_ k_ => go290 t_ (st291 t_ k_)
      have go301 : Go p e below s₁ F0 T291 (mkF m 117 #[vi p1, vi p2, vi p3, vi b, vi (1 : Int32), vi l0, vi l1, vi l2, vi (0 : Int32), vi k0, vi k1, vi k2, vr b_279, vr b_286, .unset, .unset] [(.int (0 : Int32)), (.long (1000000 : Int64)), (.long (0 : Int64)), (.ref b291), (.ref b291)]) := by
        intro t_ k_
        refine go300 t_ ?_
        refine o_dup X291 hx (hb hby at_111) rfl ?_
        refine o_lconst X291 hx (hb hby at_112) (v := 0) rfl ?_
        refine o_ldc2 X291 hx hown (mvT hZ (own_w hw 8 rfl)) (hb hby at_113) ?_
        refine o_iconst X291 hx (hb hby at_116) (v := 0) rfl ?_
        exact k_
      obtain ⟨T302, h302, k302, X302, e302, E302, A302, st302⟩ := newP X291 hx hZ (own_w hw 4 rfl) e291 (g := (mkF m 117 #[vi p1, vi p2, vi p3, vi b, vi (1 : Int32), vi l0, vi l1, vi l2, vi (0 : Int32), vi k0, vi k1, vi k2, vr b_279, vr b_286, .unset, .unset] [(.int (0 : Int32)), (.long (1000000 : Int64)), (.long (0 : Int64)), (.ref b291), (.ref b291)])) rfl (hb hby at_117) rfl (by decide) (cap := 0) (by decide) (by decide) (by decide) (by decide)
      obtain ⟨b302, gz302⟩ : ∃ z, z = h291.size := ⟨_, rfl⟩
      rw [← gz302] at A302 st302
      have F303 : Arv Z h291 b_279 kb_279 .int (1 : Int32) [(.int l0)] (.int (0 : Int32)) := (F292.ext E291)
      have ne304 : b_279 ≠ b302 := Nat.ne_of_lt (Nat.lt_of_lt_of_le F303.lt (Nat.le_of_eq gz302.symm))
      have F305 : Arv Z h291 b_286 kb_286 .int (0 : Int32) [] (.int (0 : Int32)) := (V_286.ext E291)
      have ne306 : b_286 ≠ b302 := Nat.ne_of_lt (Nat.lt_of_lt_of_le F305.lt (Nat.le_of_eq gz302.symm))
      have ne307 : b291 ≠ b302 := Nat.ne_of_lt (Nat.lt_of_lt_of_le A291.lt (Nat.le_of_eq gz302.symm))
      have g_b302 : n0 ≤ b302 := Nat.le_trans Z295 (Nat.le_of_eq gz302.symm)
      have Z308 : n0 ≤ h302.size := Nat.le_trans Z295 E302.1
      have V302 : Arv Z h302 b302 k302 .int (0 : Int32) [] (.int (0 : Int32)) := (Arv.new A302 (by decide)).pad (pad_rep [] (.int (0 : Int32)) 0)
      have go309 : Go p e below s₁ F0 T302 (mkF m 119 #[vi p1, vi p2, vi p3, vi b, vi (1 : Int32), vi l0, vi l1, vi l2, vi (0 : Int32), vi k0, vi k1, vi k2, vr b_279, vr b_286, .unset, .unset] [(.ref b302), (.long (1000000 : Int64)), (.long (0 : Int64)), (.ref b291), (.ref b291)]) := fun t_ k_ => go301 t_ (st302 t_ k_)
      have F310 : Exa Z h302 b291 c_0 := (A291.ext E302)
      have F311 : Fld Z h302 b291 c_0 "id" "J" (.long (0 : Int64)) := (F296.ext E302)
      have F312 : Fld Z h302 b291 c_0 "power" "J" (.long (0 : Int64)) := (F297.ext E302)
      have F313 : Fld Z h302 b291 c_0 "units" "[I" .null := (F298.ext E302)
      have F314 : Fld Z h302 b291 c_0 "licences" "[I" .null := (F299.ext E302)
      have go315 : Go p e below s₁ F0 T302 (mkF m 121 #[vi p1, vi p2, vi p3, vi b, vi (1 : Int32), vi l0, vi l1, vi l2, vi (0 : Int32), vi k0, vi k1, vi k2, vr b_279, vr b_286, .unset, .unset] [(.ref b_279), (.ref b302), (.long (1000000 : Int64)), (.long (0 : Int64)), (.ref b291), (.ref b291)]) := by
        intro t_ k_
        refine go309 t_ ?_
        refine o_aload X302 hx (hb hby at_119) rfl rfl ?_
        exact k_
      obtain ⟨_, _, ⟨T316, L316, k316, n316⟩, -, X316, ⟨Lc316, hQ316, l316, y316, z316⟩, st316⟩ := X302.specialBack hx (y := y_2) rfl hown (mvT hZ (own_w hw 9 rfl)) (mvT hZ (own_w hw 10 rfl)) (mvT hZ (own_w hw 11 rfl)) (by decide) (backOf (W := 1) (rm2 l Z a0 hw [] b291 (0 : Int64) (1000000 : Int64) b302 b_279 h302 n0 Z308 F310 F311 F312 F313 F314 g_b291) hZ (own_w hw 11 rfl) (own_w hw 7 rfl) (by decide) (by decide)) (g := (mkF m 121 #[vi p1, vi p2, vi p3, vi b, vi (1 : Int32), vi l0, vi l1, vi l2, vi (0 : Int32), vi k0, vi k1, vi k2, vr b_279, vr b_286, .unset, .unset] [(.ref b_279), (.ref b302), (.long (1000000 : Int64)), (.long (0 : Int64)), (.ref b291), (.ref b291)])) rfl (by rw [hml]; rfl) (Steps.refl _) (a := b291) (argsL := [(.long (0 : Int64)), (.long (1000000 : Int64)), (.ref b302), (.ref b_279)]) (rest := [(.ref b291)]) (lenOf pd0_1 rfl) rfl (by show 2 * 0 + _ ≤ _; exact Nat.le_of_eq rfl) (hb hby at_121) (fun _ _ => ⟨rfl, e302, (by decide : 4 + 0 ≤ _), (by decide : 5 + 0 ≤ _)⟩)
      dsimp only [Pt.U, Pt.locs, Pt.cells, Pt.slots] at X316 l316 y316 z316 st316 hQ316
      subst l316 y316 z316
      obtain ⟨rfl, Nq316, Kc316, F4_316⟩ := hQ316
      have N316 := Fr.app N286 Nq316
      have Z317 : n0 ≤ T316.heap.size := Nat.le_trans Z308 Kc316.1
      have go318 : Go p e below s₁ F0 T316 (mkF m 124 #[vi p1, vi p2, vi p3, vi b, vi (1 : Int32), vi l0, vi l1, vi l2, vi (0 : Int32), vi k0, vi k1, vi k2, vr b_279, vr b_286, .unset, .unset] [(.ref b291)]) := fun t_ k_ => go315 t_ (st316.trans k_)
      have F319 : Arv Z T316.heap b_279 kb_279 .int (1 : Int32) [(.int l0)] (.int (0 : Int32)) := ((F303.ext E302).keep Kc316 (ninS ne293 nin0))
      have F320 : Arv Z T316.heap b_286 kb_286 .int (0 : Int32) [] (.int (0 : Int32)) := ((F305.ext E302).keep Kc316 (ninS ne294 nin0))
      have go321 : Go p e below s₁ F0 T316 (mkF m 203 #[vi p1, vi p2, vi p3, vi b, vi (1 : Int32), vi l0, vi l1, vi l2, vi (0 : Int32), vi k0, vi k1, vi k2, vr b_279, vr b_286, vr b291, vi (1 : Int32)] [(.ref b_286), (.ref b291)]) := by
        intro t_ k_
        refine go318 t_ ?_
        refine o_astore X316 hx (hb hby at_124) rfl (L' := #[vi p1, vi p2, vi p3, vi b, vi (1 : Int32), vi l0, vi l1, vi l2, vi (0 : Int32), vi k0, vi k1, vi k2, vr b_279, vr b_286, vr b291, .unset]) rfl ?_
        refine o_iload X316 hx (hb hby at_126) rfl ?_
        refine o_iconst X316 hx (hb hby at_128) (v := 1) rfl ?_
        refine o_icmpYes X316 hx (hb hby at_129) (pc' := 148) rfl (by decide) (tlt (by decide : (0 : Int32) < (1 : Int32))).1 ?_
        refine o_iload X316 hx (hb hby at_148) rfl ?_
        refine o_iconst X316 hx (hb hby at_150) (v := 2) rfl ?_
        refine o_icmpYes X316 hx (hb hby at_151) (pc' := 170) rfl (by decide) (tlt (by decide : (0 : Int32) < (2 : Int32))).1 ?_
        refine o_iload X316 hx (hb hby at_170) rfl ?_
        refine o_iconst X316 hx (hb hby at_172) (v := 3) rfl ?_
        refine o_icmpYes X316 hx (hb hby at_173) (pc' := 192) rfl (by decide) (tlt (by decide : (0 : Int32) < (3 : Int32))).1 ?_
        refine o_iconst X316 hx (hb hby at_192) (v := 1) rfl ?_
        refine o_goto X316 hx (hb hby at_193) (pc' := 197) rfl (by decide) ?_
        refine o_istore X316 hx (hb hby at_197) (L' := #[vi p1, vi p2, vi p3, vi b, vi (1 : Int32), vi l0, vi l1, vi l2, vi (0 : Int32), vi k0, vi k1, vi k2, vr b_279, vr b_286, vr b291, vi (1 : Int32)]) rfl ?_
        refine o_aload X316 hx (hb hby at_199) rfl rfl ?_
        refine o_aload X316 hx (hb hby at_201) rfl rfl ?_
        exact k_
      have F323 : Exa Z T316.heap b291 c_0 := (F310.keep Kc316)
      obtain ⟨cq322, kq322, q322a, q322b, q322c⟩ := isOf hZ rfl F323
      obtain ⟨_, _, ⟨T322, L322, k322, n322⟩, -, X322, ⟨Lc322, hQ322, l322, y322, z322⟩, st322⟩ := X316.virtualBack hx (y := y_4) (z := y_4) hown (mvT hZ (own_w hw 31 rfl)) (mvT hZ (own_w hw 32 rfl)) (notFace_of_selects (args := #[]) (mvT hZ (own_w hw 34 rfl))) (mvT hZ (own_w hw 34 rfl)) (mvT hZ (own_w hw 33 rfl)) (by decide) (backOf (W := 0) (rm6_1_0 l Z a0 hw [] b291 b_286 b_279 kb_279 kb_286 l0 (T316.heap) n0 Z317 F4_316 F319 F320) hZ (own_w hw 35 rfl) (own_w hw 7 rfl) (by decide) (by decide)) q322a q322c (g := (mkF m 203 #[vi p1, vi p2, vi p3, vi b, vi (1 : Int32), vi l0, vi l1, vi l2, vi (0 : Int32), vi k0, vi k1, vi k2, vr b_279, vr b_286, vr b291, vi (1 : Int32)] [(.ref b_286), (.ref b291)])) rfl (by rw [hml]; rfl) (Steps.refl _) (argsL := [(.ref b_286)]) (rest := []) (lenOf pd0_2 rfl) rfl (by show 2 * 0 + _ ≤ _; exact Nat.le_of_eq rfl) (hb hby at_203) (fun _ _ => ⟨rfl, rfl, (by decide : 4 + 0 ≤ _), (by decide : 5 + 0 ≤ _)⟩)
      dsimp only [Pt.U, Pt.locs, Pt.cells, Pt.slots] at X322 l322 y322 z322 st322 hQ322
      subst l322 y322 z322
      obtain ⟨rfl, Nq322, eh322⟩ := hQ322
      have N322 := Fr.app N316 Nq322
      have go324 : Go p e below s₁ F0 T322 (mkF m 206 #[vi p1, vi p2, vi p3, vi b, vi (1 : Int32), vi l0, vi l1, vi l2, vi (0 : Int32), vi k0, vi k1, vi k2, vr b_279, vr b_286, vr b291, vi (1 : Int32)] [(.int (f6_1_0 l0))]) := fun t_ k_ => go321 t_ (st322.trans k_)
      have go326 : Go p e below s₁ F0 T322 (mkF m 208 #[vi p1, vi p2, vi p3, vi b, vi (1 : Int32), vi l0, vi l1, vi l2, vi (0 : Int32), vi k0, vi k1, vi k2, vr b_279, vr b_286, vr b291, vi (1 : Int32)] [(.int (1 : Int32)), (.int (f6_1_0 l0))]) := by
        intro t_ k_
        refine go324 t_ ?_
        refine o_iload X322 hx (hb hby at_206) rfl ?_
        exact k_
      have hd325 : (f6_1_0 l0) = (1 : Int32) := own_yes_1_0 l0 l1 l2 k0 k1 k2  
      have go327 : Go p e below s₁ F0 T322 (mkF m 216 #[vi p1, vi p2, vi p3, vi b, vi (1 : Int32), vi l0, vi l1, vi l2, vi (0 : Int32), vi k0, vi k1, vi k2, vr b_279, vr b_286, vr b291, vi (1 : Int32)] [(.int (1 : Int32))]) := by
        intro t_ k_
        refine go326 t_ ?_
        refine o_icmpNo X322 hx (hb hby at_208) (teq hd325).2 ?_
        refine o_iconst X322 hx (hb hby at_211) (v := 1) rfl ?_
        refine o_goto X322 hx (hb hby at_212) (pc' := 216) rfl (by decide) ?_
        exact k_
      obtain ⟨fs, hr, hrun, hended, hW, hsame⟩ := X322.leave (v := some (.int (1 : Int32))) (fun h => by rw [Bd.returns] at h; cases h)
      refine ⟨_, _, pre0 _ (go327 _ ?_), hrun, hended, _, _, rfl, ?_, ⟨_, rfl⟩, hW, hsame.mono (by decide) (by decide)⟩
      · skip
        exact retN X322 hx (t := .boolean) Bd.returns (by simp) (hb hby at_216) hr
      · show Q0 Z p1 p2 p3 h0 n0 _ T322.heap _
        rw [eh322]
        exact ⟨rfl, N322⟩
    · skip
      have go328 : Go p e below s₁ F0 T279 (mkF m 95 #[vi p1, vi p2, vi p3, vi b, vi (1 : Int32), vi l0, vi l1, vi l2, vi (1 : Int32), vi k0, vi k1, vi k2, vr b_279, .unset, .unset, .unset] []) := by rw [hcs283] at go282; exact go282
      have go329 : Go p e below s₁ F0 T279 (mkF m 103 #[vi p1, vi p2, vi p3, vi b, vi (1 : Int32), vi l0, vi l1, vi l2, vi (1 : Int32), vi k0, vi k1, vi k2, vr b_279, .unset, .unset, .unset] [(.int k2), (.int k1), (.int k0), (.int (1 : Int32))]) := by
        intro t_ k_
        refine go328 t_ ?_
        refine o_iload X279 hx (hb hby at_95) rfl ?_
        refine o_iload X279 hx (hb hby at_97) rfl ?_
        refine o_iload X279 hx (hb hby at_99) rfl ?_
        refine o_iload X279 hx (hb hby at_101) rfl ?_
        exact k_
      obtain ⟨_, _, ⟨T330, L330, k330, n330⟩, -, X330, ⟨Lc330, hQ330, l330, y330, z330⟩, st330⟩ := Jvm.LawKit.callS X279 hx (y := y_1) hown (mvT hZ (own_w hw 0 rfl)) (mvT hZ (own_w hw 1 rfl)) (mvT hZ (own_w hw 2 rfl)) (mvT hZ (own_w hw 3 rfl)) (by decide) (backOf (W := 0) (rm1_1 l Z a0 hw [] k0 k1 k2 (T279.heap) n0 Z280 ) hZ (own_w hw 3 rfl) (own_w hw 2 rfl) (by decide) (by decide)) (g := (mkF m 103 #[vi p1, vi p2, vi p3, vi b, vi (1 : Int32), vi l0, vi l1, vi l2, vi (1 : Int32), vi k0, vi k1, vi k2, vr b_279, .unset, .unset, .unset] [(.int k2), (.int k1), (.int k0), (.int (1 : Int32))])) rfl (by rw [hml]; rfl) (argsL := [(.int (1 : Int32)), (.int k0), (.int k1), (.int k2)]) (rest := []) (lenOf pd0_0 rfl) rfl (by show 2 * 0 + _ ≤ _; exact Nat.le_of_eq rfl) (hb hby at_103) (fun _ _ => ⟨rfl, rfl, (by decide : 1 + 1 ≤ _), (by decide : 1 + 1 ≤ _)⟩)
      dsimp only [Pt.U, Pt.locs, Pt.cells, Pt.slots] at X330 l330 y330 z330 st330 hQ330
      subst l330 y330 z330
      obtain ⟨b_330, kb_330, rfl, Nq330, Kc330, hb_330, V_330⟩ := hQ330
      have N330 := Fr.app N279 Nq330
      have ne331 : b_279 ≠ b_330 := Nat.ne_of_lt (Nat.lt_of_lt_of_le V_279.lt hb_330)
      have g_b_330 : n0 ≤ b_330 := Nat.le_trans Z280 hb_330
      have Z332 : n0 ≤ T330.heap.size := Nat.le_trans Z280 Kc330.1
      have go333 : Go p e below s₁ F0 T330 (mkF m 106 #[vi p1, vi p2, vi p3, vi b, vi (1 : Int32), vi l0, vi l1, vi l2, vi (1 : Int32), vi k0, vi k1, vi k2, vr b_279, .unset, .unset, .unset] [(.ref b_330)]) := fun t_ k_ => go329 t_ (st330 t_ k_)
      have go334 : Go p e below s₁ F0 T330 (mkF m 108 #[vi p1, vi p2, vi p3, vi b, vi (1 : Int32), vi l0, vi l1, vi l2, vi (1 : Int32), vi k0, vi k1, vi k2, vr b_279, vr b_330, .unset, .unset] []) := by
        intro t_ k_
        refine go333 t_ ?_
        refine o_astore X330 hx (hb hby at_106) rfl (L' := #[vi p1, vi p2, vi p3, vi b, vi (1 : Int32), vi l0, vi l1, vi l2, vi (1 : Int32), vi k0, vi k1, vi k2, vr b_279, vr b_330, .unset, .unset]) rfl ?_
        exact k_
      obtain ⟨T335, h335, X335, e335, E335, A335, D335, -, st335⟩ := newO X330 hx hZ hown (own_w hw 5 rfl) (own_w hw 6 rfl) (own_w hw 7 rfl) rfl (g := (mkF m 108 #[vi p1, vi p2, vi p3, vi b, vi (1 : Int32), vi l0, vi l1, vi l2, vi (1 : Int32), vi k0, vi k1, vi k2, vr b_279, vr b_330, .unset, .unset] [])) rfl (hb hby at_108) (by decide) (by decide)
      obtain ⟨b335, gz335⟩ : ∃ z, z = T330.heap.size := ⟨_, rfl⟩
      rw [← gz335] at A335 D335 st335
      have F336 : Arv Z T330.heap b_279 kb_279 .int (1 : Int32) [(.int l0)] (.int (0 : Int32)) := (V_279.keep Kc330 nin0)
      have ne337 : b_279 ≠ b335 := Nat.ne_of_lt (Nat.lt_of_lt_of_le F336.lt (Nat.le_of_eq gz335.symm))
      have ne338 : b_330 ≠ b335 := Nat.ne_of_lt (Nat.lt_of_lt_of_le V_330.lt (Nat.le_of_eq gz335.symm))
      have g_b335 : n0 ≤ b335 := Nat.le_trans Z332 (Nat.le_of_eq gz335.symm)
      have Z339 : n0 ≤ h335.size := Nat.le_trans Z332 E335.1
      have F340 : Fld Z h335 b335 c_0 "id" "J" (.long (0 : Int64)) := D335 (Or.inr (own_w hw 21 rfl)) (ty := .long) (by decide)
      have F341 : Fld Z h335 b335 c_0 "power" "J" (.long (0 : Int64)) := D335 (Or.inr (own_w hw 23 rfl)) (ty := .long) (by decide)
      have F342 : Fld Z h335 b335 c_0 "units" "[I" .null := D335 (Or.inr (own_w hw 25 rfl)) (ty := (.array .int)) (by decide)
      have F343 : Fld Z h335 b335 c_0 "licences" "[I" .null := D335 (Or.inr (own_w hw 27 rfl)) (ty := (.array .int)) (by decide)
      have go344 : Go p e below s₁ F0 T335 (mkF m 111 #[vi p1, vi p2, vi p3, vi b, vi (1 : Int32), vi l0, vi l1, vi l2, vi (1 : Int32), vi k0, vi k1, vi k2, vr b_279, vr b_330, .unset, .unset] [(.ref b335)]) := fun t_ k_ => go334 t_ (st335 t_ k_)
      have go345 : Go p e below s₁ F0 T335 (mkF m 117 #[vi p1, vi p2, vi p3, vi b, vi (1 : Int32), vi l0, vi l1, vi l2, vi (1 : Int32), vi k0, vi k1, vi k2, vr b_279, vr b_330, .unset, .unset] [(.int (0 : Int32)), (.long (1000000 : Int64)), (.long (0 : Int64)), (.ref b335), (.ref b335)]) := by
        intro t_ k_
        refine go344 t_ ?_
        refine o_dup X335 hx (hb hby at_111) rfl ?_
        refine o_lconst X335 hx (hb hby at_112) (v := 0) rfl ?_
        refine o_ldc2 X335 hx hown (mvT hZ (own_w hw 8 rfl)) (hb hby at_113) ?_
        refine o_iconst X335 hx (hb hby at_116) (v := 0) rfl ?_
        exact k_
      obtain ⟨T346, h346, k346, X346, e346, E346, A346, st346⟩ := newP X335 hx hZ (own_w hw 4 rfl) e335 (g := (mkF m 117 #[vi p1, vi p2, vi p3, vi b, vi (1 : Int32), vi l0, vi l1, vi l2, vi (1 : Int32), vi k0, vi k1, vi k2, vr b_279, vr b_330, .unset, .unset] [(.int (0 : Int32)), (.long (1000000 : Int64)), (.long (0 : Int64)), (.ref b335), (.ref b335)])) rfl (hb hby at_117) rfl (by decide) (cap := 0) (by decide) (by decide) (by decide) (by decide)
      obtain ⟨b346, gz346⟩ : ∃ z, z = h335.size := ⟨_, rfl⟩
      rw [← gz346] at A346 st346
      have F347 : Arv Z h335 b_279 kb_279 .int (1 : Int32) [(.int l0)] (.int (0 : Int32)) := (F336.ext E335)
      have ne348 : b_279 ≠ b346 := Nat.ne_of_lt (Nat.lt_of_lt_of_le F347.lt (Nat.le_of_eq gz346.symm))
      have F349 : Arv Z h335 b_330 kb_330 .int (1 : Int32) [(.int k0)] (.int (0 : Int32)) := (V_330.ext E335)
      have ne350 : b_330 ≠ b346 := Nat.ne_of_lt (Nat.lt_of_lt_of_le F349.lt (Nat.le_of_eq gz346.symm))
      have ne351 : b335 ≠ b346 := Nat.ne_of_lt (Nat.lt_of_lt_of_le A335.lt (Nat.le_of_eq gz346.symm))
      have g_b346 : n0 ≤ b346 := Nat.le_trans Z339 (Nat.le_of_eq gz346.symm)
      have Z352 : n0 ≤ h346.size := Nat.le_trans Z339 E346.1
      have V346 : Arv Z h346 b346 k346 .int (0 : Int32) [] (.int (0 : Int32)) := (Arv.new A346 (by decide)).pad (pad_rep [] (.int (0 : Int32)) 0)
      have go353 : Go p e below s₁ F0 T346 (mkF m 119 #[vi p1, vi p2, vi p3, vi b, vi (1 : Int32), vi l0, vi l1, vi l2, vi (1 : Int32), vi k0, vi k1, vi k2, vr b_279, vr b_330, .unset, .unset] [(.ref b346), (.long (1000000 : Int64)), (.long (0 : Int64)), (.ref b335), (.ref b335)]) := fun t_ k_ => go345 t_ (st346 t_ k_)
      have F354 : Exa Z h346 b335 c_0 := (A335.ext E346)
      have F355 : Fld Z h346 b335 c_0 "id" "J" (.long (0 : Int64)) := (F340.ext E346)
      have F356 : Fld Z h346 b335 c_0 "power" "J" (.long (0 : Int64)) := (F341.ext E346)
      have F357 : Fld Z h346 b335 c_0 "units" "[I" .null := (F342.ext E346)
      have F358 : Fld Z h346 b335 c_0 "licences" "[I" .null := (F343.ext E346)
      have go359 : Go p e below s₁ F0 T346 (mkF m 121 #[vi p1, vi p2, vi p3, vi b, vi (1 : Int32), vi l0, vi l1, vi l2, vi (1 : Int32), vi k0, vi k1, vi k2, vr b_279, vr b_330, .unset, .unset] [(.ref b_279), (.ref b346), (.long (1000000 : Int64)), (.long (0 : Int64)), (.ref b335), (.ref b335)]) := by
        intro t_ k_
        refine go353 t_ ?_
        refine o_aload X346 hx (hb hby at_119) rfl rfl ?_
        exact k_
      obtain ⟨_, _, ⟨T360, L360, k360, n360⟩, -, X360, ⟨Lc360, hQ360, l360, y360, z360⟩, st360⟩ := X346.specialBack hx (y := y_2) rfl hown (mvT hZ (own_w hw 9 rfl)) (mvT hZ (own_w hw 10 rfl)) (mvT hZ (own_w hw 11 rfl)) (by decide) (backOf (W := 1) (rm2 l Z a0 hw [] b335 (0 : Int64) (1000000 : Int64) b346 b_279 h346 n0 Z352 F354 F355 F356 F357 F358 g_b335) hZ (own_w hw 11 rfl) (own_w hw 7 rfl) (by decide) (by decide)) (g := (mkF m 121 #[vi p1, vi p2, vi p3, vi b, vi (1 : Int32), vi l0, vi l1, vi l2, vi (1 : Int32), vi k0, vi k1, vi k2, vr b_279, vr b_330, .unset, .unset] [(.ref b_279), (.ref b346), (.long (1000000 : Int64)), (.long (0 : Int64)), (.ref b335), (.ref b335)])) rfl (by rw [hml]; rfl) (Steps.refl _) (a := b335) (argsL := [(.long (0 : Int64)), (.long (1000000 : Int64)), (.ref b346), (.ref b_279)]) (rest := [(.ref b335)]) (lenOf pd0_1 rfl) rfl (by show 2 * 0 + _ ≤ _; exact Nat.le_of_eq rfl) (hb hby at_121) (fun _ _ => ⟨rfl, e346, (by decide : 4 + 0 ≤ _), (by decide : 6 + 0 ≤ _)⟩)
      dsimp only [Pt.U, Pt.locs, Pt.cells, Pt.slots] at X360 l360 y360 z360 st360 hQ360
      subst l360 y360 z360
      obtain ⟨rfl, Nq360, Kc360, F4_360⟩ := hQ360
      have N360 := Fr.app N330 Nq360
      have Z361 : n0 ≤ T360.heap.size := Nat.le_trans Z352 Kc360.1
      have go362 : Go p e below s₁ F0 T360 (mkF m 124 #[vi p1, vi p2, vi p3, vi b, vi (1 : Int32), vi l0, vi l1, vi l2, vi (1 : Int32), vi k0, vi k1, vi k2, vr b_279, vr b_330, .unset, .unset] [(.ref b335)]) := fun t_ k_ => go359 t_ (st360.trans k_)
      have go363 : Go p e below s₁ F0 T360 (mkF m 142 #[vi p1, vi p2, vi p3, vi b, vi (1 : Int32), vi l0, vi l1, vi l2, vi (1 : Int32), vi k0, vi k1, vi k2, vr b_279, vr b_330, vr b335, .unset] [(.int k0), (.int l2), (.int l1), (.int l0), (.int (1 : Int32))]) := by
        intro t_ k_
        refine go362 t_ ?_
        refine o_astore X360 hx (hb hby at_124) rfl (L' := #[vi p1, vi p2, vi p3, vi b, vi (1 : Int32), vi l0, vi l1, vi l2, vi (1 : Int32), vi k0, vi k1, vi k2, vr b_279, vr b_330, vr b335, .unset]) rfl ?_
        refine o_iload X360 hx (hb hby at_126) rfl ?_
        refine o_iconst X360 hx (hb hby at_128) (v := 1) rfl ?_
        refine o_icmpNo X360 hx (hb hby at_129) (flt (by decide : ¬ ((1 : Int32) < (1 : Int32)))).1 ?_
        refine o_iload X360 hx (hb hby at_132) rfl ?_
        refine o_iload X360 hx (hb hby at_134) rfl ?_
        refine o_iload X360 hx (hb hby at_136) rfl ?_
        refine o_iload X360 hx (hb hby at_138) rfl ?_
        refine o_iload X360 hx (hb hby at_140) rfl ?_
        exact k_
      obtain ⟨_, _, ⟨T364, L364, k364, n364⟩, -, X364, ⟨Lc364, hQ364, l364, y364, z364⟩, st364⟩ := Jvm.LawKit.callS X360 hx (y := y_3) hown (mvT hZ (own_w hw 28 rfl)) (mvT hZ (own_w hw 29 rfl)) (mvT hZ (own_w hw 2 rfl)) (mvT hZ (own_w hw 30 rfl)) (by decide) (backOf (W := 0) (rm5_1 l Z a0 hw [] l0 l1 l2 k0 (T360.heap) n0 Z361 ) hZ (own_w hw 30 rfl) (own_w hw 2 rfl) (by decide) (by decide)) (g := (mkF m 142 #[vi p1, vi p2, vi p3, vi b, vi (1 : Int32), vi l0, vi l1, vi l2, vi (1 : Int32), vi k0, vi k1, vi k2, vr b_279, vr b_330, vr b335, .unset] [(.int k0), (.int l2), (.int l1), (.int l0), (.int (1 : Int32))])) rfl (by rw [hml]; rfl) (argsL := [(.int (1 : Int32)), (.int l0), (.int l1), (.int l2), (.int k0)]) (rest := []) (lenOf pd0_3 rfl) rfl (by show 2 * 0 + _ ≤ _; exact Nat.le_of_eq rfl) (hb hby at_142) (fun _ _ => ⟨rfl, rfl, (by decide : 4 + 0 ≤ _), (by decide : 6 + 0 ≤ _)⟩)
      dsimp only [Pt.U, Pt.locs, Pt.cells, Pt.slots] at X364 l364 y364 z364 st364 hQ364
      subst l364 y364 z364
      obtain ⟨rfl, Nq364, eh364⟩ := hQ364
      have N364 := Fr.app N360 Nq364
      have go365 : Go p e below s₁ F0 T364 (mkF m 145 #[vi p1, vi p2, vi p3, vi b, vi (1 : Int32), vi l0, vi l1, vi l2, vi (1 : Int32), vi k0, vi k1, vi k2, vr b_279, vr b_330, vr b335, .unset] [(.int (f5_1 l0 l1 l2 k0))]) := fun t_ k_ => go363 t_ (st364 t_ k_)
      by_cases hc145_366 : (f5_1 l0 l1 l2 k0) = (0 : Int32)
      · skip
        have F367 : Arv Z T360.heap b_279 kb_279 .int (1 : Int32) [(.int l0)] (.int (0 : Int32)) := ((F347.ext E346).keep Kc360 (ninS ne337 nin0))
        have F368 : Arv Z T360.heap b_330 kb_330 .int (1 : Int32) [(.int k0)] (.int (0 : Int32)) := ((F349.ext E346).keep Kc360 (ninS ne338 nin0))
        have go369 : Go p e below s₁ F0 T364 (mkF m 203 #[vi p1, vi p2, vi p3, vi b, vi (1 : Int32), vi l0, vi l1, vi l2, vi (1 : Int32), vi k0, vi k1, vi k2, vr b_279, vr b_330, vr b335, vi (0 : Int32)] [(.ref b_330), (.ref b335)]) := by
          intro t_ k_
          refine go365 t_ ?_
          refine o_ifYes X364 hx (hb hby at_145) (pc' := 196) rfl (by decide) ((if0 _ _).trans (teq hc145_366).1) ?_
          refine o_iconst X364 hx (hb hby at_196) (v := 0) rfl ?_
          refine o_istore X364 hx (hb hby at_197) (L' := #[vi p1, vi p2, vi p3, vi b, vi (1 : Int32), vi l0, vi l1, vi l2, vi (1 : Int32), vi k0, vi k1, vi k2, vr b_279, vr b_330, vr b335, vi (0 : Int32)]) rfl ?_
          refine o_aload X364 hx (hb hby at_199) rfl rfl ?_
          refine o_aload X364 hx (hb hby at_201) rfl rfl ?_
          exact k_
        have F371 : Exa Z T360.heap b335 c_0 := (F354.keep Kc360)
        obtain ⟨cq370, kq370, q370a, q370b, q370c⟩ := isOf hZ eh364 F371
        obtain ⟨_, _, ⟨T370, L370, k370, n370⟩, -, X370, ⟨Lc370, hQ370, l370, y370, z370⟩, st370⟩ := X364.virtualBack hx (y := y_4) (z := y_4) hown (mvT hZ (own_w hw 31 rfl)) (mvT hZ (own_w hw 32 rfl)) (notFace_of_selects (args := #[]) (mvT hZ (own_w hw 34 rfl))) (mvT hZ (own_w hw 34 rfl)) (mvT hZ (own_w hw 33 rfl)) (by decide) (backOf (W := 0) (rm6_1_1 l Z a0 hw [] b335 b_330 b_279 kb_279 kb_330 l0 k0 (T360.heap) n0 Z361 F4_360 F367 F368) hZ (own_w hw 35 rfl) (own_w hw 7 rfl) (by decide) (by decide)) q370a q370c (g := (mkF m 203 #[vi p1, vi p2, vi p3, vi b, vi (1 : Int32), vi l0, vi l1, vi l2, vi (1 : Int32), vi k0, vi k1, vi k2, vr b_279, vr b_330, vr b335, vi (0 : Int32)] [(.ref b_330), (.ref b335)])) rfl (by rw [hml]; rfl) (Steps.refl _) (argsL := [(.ref b_330)]) (rest := []) (lenOf pd0_2 rfl) rfl (by show 2 * 0 + _ ≤ _; exact Nat.le_of_eq rfl) (hb hby at_203) (fun _ _ => ⟨rfl, eh364, (by decide : 4 + 0 ≤ _), (by decide : 6 + 0 ≤ _)⟩)
        dsimp only [Pt.U, Pt.locs, Pt.cells, Pt.slots] at X370 l370 y370 z370 st370 hQ370
        subst l370 y370 z370
        obtain ⟨rfl, Nq370, eh370⟩ := hQ370
        have N370 := Fr.app N364 Nq370
        have go372 : Go p e below s₁ F0 T370 (mkF m 206 #[vi p1, vi p2, vi p3, vi b, vi (1 : Int32), vi l0, vi l1, vi l2, vi (1 : Int32), vi k0, vi k1, vi k2, vr b_279, vr b_330, vr b335, vi (0 : Int32)] [(.int (f6_1_1 l0 k0))]) := fun t_ k_ => go369 t_ (st370.trans k_)
        have go374 : Go p e below s₁ F0 T370 (mkF m 208 #[vi p1, vi p2, vi p3, vi b, vi (1 : Int32), vi l0, vi l1, vi l2, vi (1 : Int32), vi k0, vi k1, vi k2, vr b_279, vr b_330, vr b335, vi (0 : Int32)] [(.int (0 : Int32)), (.int (f6_1_1 l0 k0))]) := by
          intro t_ k_
          refine go372 t_ ?_
          refine o_iload X370 hx (hb hby at_206) rfl ?_
          exact k_
        have hd373 : (f6_1_1 l0 k0) = (0 : Int32) := own_no_1_1_0 l0 l1 l2 k0 k1 k2  hc145_366
        have go375 : Go p e below s₁ F0 T370 (mkF m 216 #[vi p1, vi p2, vi p3, vi b, vi (1 : Int32), vi l0, vi l1, vi l2, vi (1 : Int32), vi k0, vi k1, vi k2, vr b_279, vr b_330, vr b335, vi (0 : Int32)] [(.int (1 : Int32))]) := by
          intro t_ k_
          refine go374 t_ ?_
          refine o_icmpNo X370 hx (hb hby at_208) (teq hd373).2 ?_
          refine o_iconst X370 hx (hb hby at_211) (v := 1) rfl ?_
          refine o_goto X370 hx (hb hby at_212) (pc' := 216) rfl (by decide) ?_
          exact k_
        obtain ⟨fs, hr, hrun, hended, hW, hsame⟩ := X370.leave (v := some (.int (1 : Int32))) (fun h => by rw [Bd.returns] at h; cases h)
        refine ⟨_, _, pre0 _ (go375 _ ?_), hrun, hended, _, _, rfl, ?_, ⟨_, rfl⟩, hW, hsame.mono (by decide) (by decide)⟩
        · skip
          exact retN X370 hx (t := .boolean) Bd.returns (by simp) (hb hby at_216) hr
        · show Q0 Z p1 p2 p3 h0 n0 _ T370.heap _
          rw [eh370]
          exact ⟨rfl, N370⟩
      · skip
        have F376 : Arv Z T360.heap b_279 kb_279 .int (1 : Int32) [(.int l0)] (.int (0 : Int32)) := ((F347.ext E346).keep Kc360 (ninS ne337 nin0))
        have F377 : Arv Z T360.heap b_330 kb_330 .int (1 : Int32) [(.int k0)] (.int (0 : Int32)) := ((F349.ext E346).keep Kc360 (ninS ne338 nin0))
        have go378 : Go p e below s₁ F0 T364 (mkF m 203 #[vi p1, vi p2, vi p3, vi b, vi (1 : Int32), vi l0, vi l1, vi l2, vi (1 : Int32), vi k0, vi k1, vi k2, vr b_279, vr b_330, vr b335, vi (1 : Int32)] [(.ref b_330), (.ref b335)]) := by
          intro t_ k_
          refine go365 t_ ?_
          refine o_ifNo X364 hx (hb hby at_145) ((if0 _ _).trans (feq hc145_366).1) ?_
          refine o_iload X364 hx (hb hby at_148) rfl ?_
          refine o_iconst X364 hx (hb hby at_150) (v := 2) rfl ?_
          refine o_icmpYes X364 hx (hb hby at_151) (pc' := 170) rfl (by decide) (tlt (by decide : (1 : Int32) < (2 : Int32))).1 ?_
          refine o_iload X364 hx (hb hby at_170) rfl ?_
          refine o_iconst X364 hx (hb hby at_172) (v := 3) rfl ?_
          refine o_icmpYes X364 hx (hb hby at_173) (pc' := 192) rfl (by decide) (tlt (by decide : (1 : Int32) < (3 : Int32))).1 ?_
          refine o_iconst X364 hx (hb hby at_192) (v := 1) rfl ?_
          refine o_goto X364 hx (hb hby at_193) (pc' := 197) rfl (by decide) ?_
          refine o_istore X364 hx (hb hby at_197) (L' := #[vi p1, vi p2, vi p3, vi b, vi (1 : Int32), vi l0, vi l1, vi l2, vi (1 : Int32), vi k0, vi k1, vi k2, vr b_279, vr b_330, vr b335, vi (1 : Int32)]) rfl ?_
          refine o_aload X364 hx (hb hby at_199) rfl rfl ?_
          refine o_aload X364 hx (hb hby at_201) rfl rfl ?_
          exact k_
        have F380 : Exa Z T360.heap b335 c_0 := (F354.keep Kc360)
        obtain ⟨cq379, kq379, q379a, q379b, q379c⟩ := isOf hZ eh364 F380
        obtain ⟨_, _, ⟨T379, L379, k379, n379⟩, -, X379, ⟨Lc379, hQ379, l379, y379, z379⟩, st379⟩ := X364.virtualBack hx (y := y_4) (z := y_4) hown (mvT hZ (own_w hw 31 rfl)) (mvT hZ (own_w hw 32 rfl)) (notFace_of_selects (args := #[]) (mvT hZ (own_w hw 34 rfl))) (mvT hZ (own_w hw 34 rfl)) (mvT hZ (own_w hw 33 rfl)) (by decide) (backOf (W := 0) (rm6_1_1 l Z a0 hw [] b335 b_330 b_279 kb_279 kb_330 l0 k0 (T360.heap) n0 Z361 F4_360 F376 F377) hZ (own_w hw 35 rfl) (own_w hw 7 rfl) (by decide) (by decide)) q379a q379c (g := (mkF m 203 #[vi p1, vi p2, vi p3, vi b, vi (1 : Int32), vi l0, vi l1, vi l2, vi (1 : Int32), vi k0, vi k1, vi k2, vr b_279, vr b_330, vr b335, vi (1 : Int32)] [(.ref b_330), (.ref b335)])) rfl (by rw [hml]; rfl) (Steps.refl _) (argsL := [(.ref b_330)]) (rest := []) (lenOf pd0_2 rfl) rfl (by show 2 * 0 + _ ≤ _; exact Nat.le_of_eq rfl) (hb hby at_203) (fun _ _ => ⟨rfl, eh364, (by decide : 4 + 0 ≤ _), (by decide : 6 + 0 ≤ _)⟩)
        dsimp only [Pt.U, Pt.locs, Pt.cells, Pt.slots] at X379 l379 y379 z379 st379 hQ379
        subst l379 y379 z379
        obtain ⟨rfl, Nq379, eh379⟩ := hQ379
        have N379 := Fr.app N364 Nq379
        have go381 : Go p e below s₁ F0 T379 (mkF m 206 #[vi p1, vi p2, vi p3, vi b, vi (1 : Int32), vi l0, vi l1, vi l2, vi (1 : Int32), vi k0, vi k1, vi k2, vr b_279, vr b_330, vr b335, vi (1 : Int32)] [(.int (f6_1_1 l0 k0))]) := fun t_ k_ => go378 t_ (st379.trans k_)
        have go383 : Go p e below s₁ F0 T379 (mkF m 208 #[vi p1, vi p2, vi p3, vi b, vi (1 : Int32), vi l0, vi l1, vi l2, vi (1 : Int32), vi k0, vi k1, vi k2, vr b_279, vr b_330, vr b335, vi (1 : Int32)] [(.int (1 : Int32)), (.int (f6_1_1 l0 k0))]) := by
          intro t_ k_
          refine go381 t_ ?_
          refine o_iload X379 hx (hb hby at_206) rfl ?_
          exact k_
        have hd382 : (f6_1_1 l0 k0) = (1 : Int32) := own_yes_1_1 l0 l1 l2 k0 k1 k2  hc145_366
        have go384 : Go p e below s₁ F0 T379 (mkF m 216 #[vi p1, vi p2, vi p3, vi b, vi (1 : Int32), vi l0, vi l1, vi l2, vi (1 : Int32), vi k0, vi k1, vi k2, vr b_279, vr b_330, vr b335, vi (1 : Int32)] [(.int (1 : Int32))]) := by
          intro t_ k_
          refine go383 t_ ?_
          refine o_icmpNo X379 hx (hb hby at_208) (teq hd382).2 ?_
          refine o_iconst X379 hx (hb hby at_211) (v := 1) rfl ?_
          refine o_goto X379 hx (hb hby at_212) (pc' := 216) rfl (by decide) ?_
          exact k_
        obtain ⟨fs, hr, hrun, hended, hW, hsame⟩ := X379.leave (v := some (.int (1 : Int32))) (fun h => by rw [Bd.returns] at h; cases h)
        refine ⟨_, _, pre0 _ (go384 _ ?_), hrun, hended, _, _, rfl, ?_, ⟨_, rfl⟩, hW, hsame.mono (by decide) (by decide)⟩
        · skip
          exact retN X379 hx (t := .boolean) Bd.returns (by simp) (hb hby at_216) hr
        · show Q0 Z p1 p2 p3 h0 n0 _ T379.heap _
          rw [eh379]
          exact ⟨rfl, N379⟩
    · skip
      have go385 : Go p e below s₁ F0 T279 (mkF m 95 #[vi p1, vi p2, vi p3, vi b, vi (1 : Int32), vi l0, vi l1, vi l2, vi (2 : Int32), vi k0, vi k1, vi k2, vr b_279, .unset, .unset, .unset] []) := by rw [hcs283] at go282; exact go282
      have go386 : Go p e below s₁ F0 T279 (mkF m 103 #[vi p1, vi p2, vi p3, vi b, vi (1 : Int32), vi l0, vi l1, vi l2, vi (2 : Int32), vi k0, vi k1, vi k2, vr b_279, .unset, .unset, .unset] [(.int k2), (.int k1), (.int k0), (.int (2 : Int32))]) := by
        intro t_ k_
        refine go385 t_ ?_
        refine o_iload X279 hx (hb hby at_95) rfl ?_
        refine o_iload X279 hx (hb hby at_97) rfl ?_
        refine o_iload X279 hx (hb hby at_99) rfl ?_
        refine o_iload X279 hx (hb hby at_101) rfl ?_
        exact k_
      obtain ⟨_, _, ⟨T387, L387, k387, n387⟩, -, X387, ⟨Lc387, hQ387, l387, y387, z387⟩, st387⟩ := Jvm.LawKit.callS X279 hx (y := y_1) hown (mvT hZ (own_w hw 0 rfl)) (mvT hZ (own_w hw 1 rfl)) (mvT hZ (own_w hw 2 rfl)) (mvT hZ (own_w hw 3 rfl)) (by decide) (backOf (W := 0) (rm1_2 l Z a0 hw [] k0 k1 k2 (T279.heap) n0 Z280 ) hZ (own_w hw 3 rfl) (own_w hw 2 rfl) (by decide) (by decide)) (g := (mkF m 103 #[vi p1, vi p2, vi p3, vi b, vi (1 : Int32), vi l0, vi l1, vi l2, vi (2 : Int32), vi k0, vi k1, vi k2, vr b_279, .unset, .unset, .unset] [(.int k2), (.int k1), (.int k0), (.int (2 : Int32))])) rfl (by rw [hml]; rfl) (argsL := [(.int (2 : Int32)), (.int k0), (.int k1), (.int k2)]) (rest := []) (lenOf pd0_0 rfl) rfl (by show 2 * 0 + _ ≤ _; exact Nat.le_of_eq rfl) (hb hby at_103) (fun _ _ => ⟨rfl, rfl, (by decide : 1 + 1 ≤ _), (by decide : 1 + 2 ≤ _)⟩)
      dsimp only [Pt.U, Pt.locs, Pt.cells, Pt.slots] at X387 l387 y387 z387 st387 hQ387
      subst l387 y387 z387
      obtain ⟨b_387, kb_387, rfl, Nq387, Kc387, hb_387, V_387⟩ := hQ387
      have N387 := Fr.app N279 Nq387
      have ne388 : b_279 ≠ b_387 := Nat.ne_of_lt (Nat.lt_of_lt_of_le V_279.lt hb_387)
      have g_b_387 : n0 ≤ b_387 := Nat.le_trans Z280 hb_387
      have Z389 : n0 ≤ T387.heap.size := Nat.le_trans Z280 Kc387.1
      have go390 : Go p e below s₁ F0 T387 (mkF m 106 #[vi p1, vi p2, vi p3, vi b, vi (1 : Int32), vi l0, vi l1, vi l2, vi (2 : Int32), vi k0, vi k1, vi k2, vr b_279, .unset, .unset, .unset] [(.ref b_387)]) := fun t_ k_ => go386 t_ (st387 t_ k_)
      have go391 : Go p e below s₁ F0 T387 (mkF m 108 #[vi p1, vi p2, vi p3, vi b, vi (1 : Int32), vi l0, vi l1, vi l2, vi (2 : Int32), vi k0, vi k1, vi k2, vr b_279, vr b_387, .unset, .unset] []) := by
        intro t_ k_
        refine go390 t_ ?_
        refine o_astore X387 hx (hb hby at_106) rfl (L' := #[vi p1, vi p2, vi p3, vi b, vi (1 : Int32), vi l0, vi l1, vi l2, vi (2 : Int32), vi k0, vi k1, vi k2, vr b_279, vr b_387, .unset, .unset]) rfl ?_
        exact k_
      obtain ⟨T392, h392, X392, e392, E392, A392, D392, -, st392⟩ := newO X387 hx hZ hown (own_w hw 5 rfl) (own_w hw 6 rfl) (own_w hw 7 rfl) rfl (g := (mkF m 108 #[vi p1, vi p2, vi p3, vi b, vi (1 : Int32), vi l0, vi l1, vi l2, vi (2 : Int32), vi k0, vi k1, vi k2, vr b_279, vr b_387, .unset, .unset] [])) rfl (hb hby at_108) (by decide) (by decide)
      obtain ⟨b392, gz392⟩ : ∃ z, z = T387.heap.size := ⟨_, rfl⟩
      rw [← gz392] at A392 D392 st392
      have F393 : Arv Z T387.heap b_279 kb_279 .int (1 : Int32) [(.int l0)] (.int (0 : Int32)) := (V_279.keep Kc387 nin0)
      have ne394 : b_279 ≠ b392 := Nat.ne_of_lt (Nat.lt_of_lt_of_le F393.lt (Nat.le_of_eq gz392.symm))
      have ne395 : b_387 ≠ b392 := Nat.ne_of_lt (Nat.lt_of_lt_of_le V_387.lt (Nat.le_of_eq gz392.symm))
      have g_b392 : n0 ≤ b392 := Nat.le_trans Z389 (Nat.le_of_eq gz392.symm)
      have Z396 : n0 ≤ h392.size := Nat.le_trans Z389 E392.1
      have F397 : Fld Z h392 b392 c_0 "id" "J" (.long (0 : Int64)) := D392 (Or.inr (own_w hw 21 rfl)) (ty := .long) (by decide)
      have F398 : Fld Z h392 b392 c_0 "power" "J" (.long (0 : Int64)) := D392 (Or.inr (own_w hw 23 rfl)) (ty := .long) (by decide)
      have F399 : Fld Z h392 b392 c_0 "units" "[I" .null := D392 (Or.inr (own_w hw 25 rfl)) (ty := (.array .int)) (by decide)
      have F400 : Fld Z h392 b392 c_0 "licences" "[I" .null := D392 (Or.inr (own_w hw 27 rfl)) (ty := (.array .int)) (by decide)
      have go401 : Go p e below s₁ F0 T392 (mkF m 111 #[vi p1, vi p2, vi p3, vi b, vi (1 : Int32), vi l0, vi l1, vi l2, vi (2 : Int32), vi k0, vi k1, vi k2, vr b_279, vr b_387, .unset, .unset] [(.ref b392)]) := fun t_ k_ => go391 t_ (st392 t_ k_)
      have go402 : Go p e below s₁ F0 T392 (mkF m 117 #[vi p1, vi p2, vi p3, vi b, vi (1 : Int32), vi l0, vi l1, vi l2, vi (2 : Int32), vi k0, vi k1, vi k2, vr b_279, vr b_387, .unset, .unset] [(.int (0 : Int32)), (.long (1000000 : Int64)), (.long (0 : Int64)), (.ref b392), (.ref b392)]) := by
        intro t_ k_
        refine go401 t_ ?_
        refine o_dup X392 hx (hb hby at_111) rfl ?_
        refine o_lconst X392 hx (hb hby at_112) (v := 0) rfl ?_
        refine o_ldc2 X392 hx hown (mvT hZ (own_w hw 8 rfl)) (hb hby at_113) ?_
        refine o_iconst X392 hx (hb hby at_116) (v := 0) rfl ?_
        exact k_
      obtain ⟨T403, h403, k403, X403, e403, E403, A403, st403⟩ := newP X392 hx hZ (own_w hw 4 rfl) e392 (g := (mkF m 117 #[vi p1, vi p2, vi p3, vi b, vi (1 : Int32), vi l0, vi l1, vi l2, vi (2 : Int32), vi k0, vi k1, vi k2, vr b_279, vr b_387, .unset, .unset] [(.int (0 : Int32)), (.long (1000000 : Int64)), (.long (0 : Int64)), (.ref b392), (.ref b392)])) rfl (hb hby at_117) rfl (by decide) (cap := 0) (by decide) (by decide) (by decide) (by decide)
      obtain ⟨b403, gz403⟩ : ∃ z, z = h392.size := ⟨_, rfl⟩
      rw [← gz403] at A403 st403
      have F404 : Arv Z h392 b_279 kb_279 .int (1 : Int32) [(.int l0)] (.int (0 : Int32)) := (F393.ext E392)
      have ne405 : b_279 ≠ b403 := Nat.ne_of_lt (Nat.lt_of_lt_of_le F404.lt (Nat.le_of_eq gz403.symm))
      have F406 : Arv Z h392 b_387 kb_387 .int (2 : Int32) [(.int k0), (.int k1)] (.int (0 : Int32)) := (V_387.ext E392)
      have ne407 : b_387 ≠ b403 := Nat.ne_of_lt (Nat.lt_of_lt_of_le F406.lt (Nat.le_of_eq gz403.symm))
      have ne408 : b392 ≠ b403 := Nat.ne_of_lt (Nat.lt_of_lt_of_le A392.lt (Nat.le_of_eq gz403.symm))
      have g_b403 : n0 ≤ b403 := Nat.le_trans Z396 (Nat.le_of_eq gz403.symm)
      have Z409 : n0 ≤ h403.size := Nat.le_trans Z396 E403.1
      have V403 : Arv Z h403 b403 k403 .int (0 : Int32) [] (.int (0 : Int32)) := (Arv.new A403 (by decide)).pad (pad_rep [] (.int (0 : Int32)) 0)
      have go410 : Go p e below s₁ F0 T403 (mkF m 119 #[vi p1, vi p2, vi p3, vi b, vi (1 : Int32), vi l0, vi l1, vi l2, vi (2 : Int32), vi k0, vi k1, vi k2, vr b_279, vr b_387, .unset, .unset] [(.ref b403), (.long (1000000 : Int64)), (.long (0 : Int64)), (.ref b392), (.ref b392)]) := fun t_ k_ => go402 t_ (st403 t_ k_)
      have F411 : Exa Z h403 b392 c_0 := (A392.ext E403)
      have F412 : Fld Z h403 b392 c_0 "id" "J" (.long (0 : Int64)) := (F397.ext E403)
      have F413 : Fld Z h403 b392 c_0 "power" "J" (.long (0 : Int64)) := (F398.ext E403)
      have F414 : Fld Z h403 b392 c_0 "units" "[I" .null := (F399.ext E403)
      have F415 : Fld Z h403 b392 c_0 "licences" "[I" .null := (F400.ext E403)
      have go416 : Go p e below s₁ F0 T403 (mkF m 121 #[vi p1, vi p2, vi p3, vi b, vi (1 : Int32), vi l0, vi l1, vi l2, vi (2 : Int32), vi k0, vi k1, vi k2, vr b_279, vr b_387, .unset, .unset] [(.ref b_279), (.ref b403), (.long (1000000 : Int64)), (.long (0 : Int64)), (.ref b392), (.ref b392)]) := by
        intro t_ k_
        refine go410 t_ ?_
        refine o_aload X403 hx (hb hby at_119) rfl rfl ?_
        exact k_
      obtain ⟨_, _, ⟨T417, L417, k417, n417⟩, -, X417, ⟨Lc417, hQ417, l417, y417, z417⟩, st417⟩ := X403.specialBack hx (y := y_2) rfl hown (mvT hZ (own_w hw 9 rfl)) (mvT hZ (own_w hw 10 rfl)) (mvT hZ (own_w hw 11 rfl)) (by decide) (backOf (W := 1) (rm2 l Z a0 hw [] b392 (0 : Int64) (1000000 : Int64) b403 b_279 h403 n0 Z409 F411 F412 F413 F414 F415 g_b392) hZ (own_w hw 11 rfl) (own_w hw 7 rfl) (by decide) (by decide)) (g := (mkF m 121 #[vi p1, vi p2, vi p3, vi b, vi (1 : Int32), vi l0, vi l1, vi l2, vi (2 : Int32), vi k0, vi k1, vi k2, vr b_279, vr b_387, .unset, .unset] [(.ref b_279), (.ref b403), (.long (1000000 : Int64)), (.long (0 : Int64)), (.ref b392), (.ref b392)])) rfl (by rw [hml]; rfl) (Steps.refl _) (a := b392) (argsL := [(.long (0 : Int64)), (.long (1000000 : Int64)), (.ref b403), (.ref b_279)]) (rest := [(.ref b392)]) (lenOf pd0_1 rfl) rfl (by show 2 * 0 + _ ≤ _; exact Nat.le_of_eq rfl) (hb hby at_121) (fun _ _ => ⟨rfl, e403, (by decide : 4 + 0 ≤ _), (by decide : 7 + 0 ≤ _)⟩)
      dsimp only [Pt.U, Pt.locs, Pt.cells, Pt.slots] at X417 l417 y417 z417 st417 hQ417
      subst l417 y417 z417
      obtain ⟨rfl, Nq417, Kc417, F4_417⟩ := hQ417
      have N417 := Fr.app N387 Nq417
      have Z418 : n0 ≤ T417.heap.size := Nat.le_trans Z409 Kc417.1
      have go419 : Go p e below s₁ F0 T417 (mkF m 124 #[vi p1, vi p2, vi p3, vi b, vi (1 : Int32), vi l0, vi l1, vi l2, vi (2 : Int32), vi k0, vi k1, vi k2, vr b_279, vr b_387, .unset, .unset] [(.ref b392)]) := fun t_ k_ => go416 t_ (st417.trans k_)
      have go420 : Go p e below s₁ F0 T417 (mkF m 142 #[vi p1, vi p2, vi p3, vi b, vi (1 : Int32), vi l0, vi l1, vi l2, vi (2 : Int32), vi k0, vi k1, vi k2, vr b_279, vr b_387, vr b392, .unset] [(.int k0), (.int l2), (.int l1), (.int l0), (.int (1 : Int32))]) := by
        intro t_ k_
        refine go419 t_ ?_
        refine o_astore X417 hx (hb hby at_124) rfl (L' := #[vi p1, vi p2, vi p3, vi b, vi (1 : Int32), vi l0, vi l1, vi l2, vi (2 : Int32), vi k0, vi k1, vi k2, vr b_279, vr b_387, vr b392, .unset]) rfl ?_
        refine o_iload X417 hx (hb hby at_126) rfl ?_
        refine o_iconst X417 hx (hb hby at_128) (v := 1) rfl ?_
        refine o_icmpNo X417 hx (hb hby at_129) (flt (by decide : ¬ ((2 : Int32) < (1 : Int32)))).1 ?_
        refine o_iload X417 hx (hb hby at_132) rfl ?_
        refine o_iload X417 hx (hb hby at_134) rfl ?_
        refine o_iload X417 hx (hb hby at_136) rfl ?_
        refine o_iload X417 hx (hb hby at_138) rfl ?_
        refine o_iload X417 hx (hb hby at_140) rfl ?_
        exact k_
      obtain ⟨_, _, ⟨T421, L421, k421, n421⟩, -, X421, ⟨Lc421, hQ421, l421, y421, z421⟩, st421⟩ := Jvm.LawKit.callS X417 hx (y := y_3) hown (mvT hZ (own_w hw 28 rfl)) (mvT hZ (own_w hw 29 rfl)) (mvT hZ (own_w hw 2 rfl)) (mvT hZ (own_w hw 30 rfl)) (by decide) (backOf (W := 0) (rm5_1 l Z a0 hw [] l0 l1 l2 k0 (T417.heap) n0 Z418 ) hZ (own_w hw 30 rfl) (own_w hw 2 rfl) (by decide) (by decide)) (g := (mkF m 142 #[vi p1, vi p2, vi p3, vi b, vi (1 : Int32), vi l0, vi l1, vi l2, vi (2 : Int32), vi k0, vi k1, vi k2, vr b_279, vr b_387, vr b392, .unset] [(.int k0), (.int l2), (.int l1), (.int l0), (.int (1 : Int32))])) rfl (by rw [hml]; rfl) (argsL := [(.int (1 : Int32)), (.int l0), (.int l1), (.int l2), (.int k0)]) (rest := []) (lenOf pd0_3 rfl) rfl (by show 2 * 0 + _ ≤ _; exact Nat.le_of_eq rfl) (hb hby at_142) (fun _ _ => ⟨rfl, rfl, (by decide : 4 + 0 ≤ _), (by decide : 7 + 0 ≤ _)⟩)
      dsimp only [Pt.U, Pt.locs, Pt.cells, Pt.slots] at X421 l421 y421 z421 st421 hQ421
      subst l421 y421 z421
      obtain ⟨rfl, Nq421, eh421⟩ := hQ421
      have N421 := Fr.app N417 Nq421
      have go422 : Go p e below s₁ F0 T421 (mkF m 145 #[vi p1, vi p2, vi p3, vi b, vi (1 : Int32), vi l0, vi l1, vi l2, vi (2 : Int32), vi k0, vi k1, vi k2, vr b_279, vr b_387, vr b392, .unset] [(.int (f5_1 l0 l1 l2 k0))]) := fun t_ k_ => go420 t_ (st421 t_ k_)
      by_cases hc145_423 : (f5_1 l0 l1 l2 k0) = (0 : Int32)
      · skip
        have F424 : Arv Z T417.heap b_279 kb_279 .int (1 : Int32) [(.int l0)] (.int (0 : Int32)) := ((F404.ext E403).keep Kc417 (ninS ne394 nin0))
        have F425 : Arv Z T417.heap b_387 kb_387 .int (2 : Int32) [(.int k0), (.int k1)] (.int (0 : Int32)) := ((F406.ext E403).keep Kc417 (ninS ne395 nin0))
        have go426 : Go p e below s₁ F0 T421 (mkF m 203 #[vi p1, vi p2, vi p3, vi b, vi (1 : Int32), vi l0, vi l1, vi l2, vi (2 : Int32), vi k0, vi k1, vi k2, vr b_279, vr b_387, vr b392, vi (0 : Int32)] [(.ref b_387), (.ref b392)]) := by
          intro t_ k_
          refine go422 t_ ?_
          refine o_ifYes X421 hx (hb hby at_145) (pc' := 196) rfl (by decide) ((if0 _ _).trans (teq hc145_423).1) ?_
          refine o_iconst X421 hx (hb hby at_196) (v := 0) rfl ?_
          refine o_istore X421 hx (hb hby at_197) (L' := #[vi p1, vi p2, vi p3, vi b, vi (1 : Int32), vi l0, vi l1, vi l2, vi (2 : Int32), vi k0, vi k1, vi k2, vr b_279, vr b_387, vr b392, vi (0 : Int32)]) rfl ?_
          refine o_aload X421 hx (hb hby at_199) rfl rfl ?_
          refine o_aload X421 hx (hb hby at_201) rfl rfl ?_
          exact k_
        have F428 : Exa Z T417.heap b392 c_0 := (F411.keep Kc417)
        obtain ⟨cq427, kq427, q427a, q427b, q427c⟩ := isOf hZ eh421 F428
        obtain ⟨_, _, ⟨T427, L427, k427, n427⟩, -, X427, ⟨Lc427, hQ427, l427, y427, z427⟩, st427⟩ := X421.virtualBack hx (y := y_4) (z := y_4) hown (mvT hZ (own_w hw 31 rfl)) (mvT hZ (own_w hw 32 rfl)) (notFace_of_selects (args := #[]) (mvT hZ (own_w hw 34 rfl))) (mvT hZ (own_w hw 34 rfl)) (mvT hZ (own_w hw 33 rfl)) (by decide) (backOf (W := 0) (rm6_1_2 l Z a0 hw [] b392 b_387 b_279 kb_279 kb_387 l0 k0 k1 (T417.heap) n0 Z418 F4_417 F424 F425 (own_s0 h_b h_k0 h_k1)) hZ (own_w hw 35 rfl) (own_w hw 7 rfl) (by decide) (by decide)) q427a q427c (g := (mkF m 203 #[vi p1, vi p2, vi p3, vi b, vi (1 : Int32), vi l0, vi l1, vi l2, vi (2 : Int32), vi k0, vi k1, vi k2, vr b_279, vr b_387, vr b392, vi (0 : Int32)] [(.ref b_387), (.ref b392)])) rfl (by rw [hml]; rfl) (Steps.refl _) (argsL := [(.ref b_387)]) (rest := []) (lenOf pd0_2 rfl) rfl (by show 2 * 0 + _ ≤ _; exact Nat.le_of_eq rfl) (hb hby at_203) (fun _ _ => ⟨rfl, eh421, (by decide : 4 + 0 ≤ _), (by decide : 7 + 0 ≤ _)⟩)
        dsimp only [Pt.U, Pt.locs, Pt.cells, Pt.slots] at X427 l427 y427 z427 st427 hQ427
        subst l427 y427 z427
        obtain ⟨rfl, Nq427, eh427⟩ := hQ427
        have N427 := Fr.app N421 Nq427
        have go429 : Go p e below s₁ F0 T427 (mkF m 206 #[vi p1, vi p2, vi p3, vi b, vi (1 : Int32), vi l0, vi l1, vi l2, vi (2 : Int32), vi k0, vi k1, vi k2, vr b_279, vr b_387, vr b392, vi (0 : Int32)] [(.int (f6_1_2 l0 k0 k1))]) := fun t_ k_ => go426 t_ (st427.trans k_)
        have go431 : Go p e below s₁ F0 T427 (mkF m 208 #[vi p1, vi p2, vi p3, vi b, vi (1 : Int32), vi l0, vi l1, vi l2, vi (2 : Int32), vi k0, vi k1, vi k2, vr b_279, vr b_387, vr b392, vi (0 : Int32)] [(.int (0 : Int32)), (.int (f6_1_2 l0 k0 k1))]) := by
          intro t_ k_
          refine go429 t_ ?_
          refine o_iload X427 hx (hb hby at_206) rfl ?_
          exact k_
        have hd430 : (f6_1_2 l0 k0 k1) = (0 : Int32) := own_no_1_2_0 l0 l1 l2 k0 k1 k2 (own_s0 h_b h_k0 h_k1) hc145_423
        have go432 : Go p e below s₁ F0 T427 (mkF m 216 #[vi p1, vi p2, vi p3, vi b, vi (1 : Int32), vi l0, vi l1, vi l2, vi (2 : Int32), vi k0, vi k1, vi k2, vr b_279, vr b_387, vr b392, vi (0 : Int32)] [(.int (1 : Int32))]) := by
          intro t_ k_
          refine go431 t_ ?_
          refine o_icmpNo X427 hx (hb hby at_208) (teq hd430).2 ?_
          refine o_iconst X427 hx (hb hby at_211) (v := 1) rfl ?_
          refine o_goto X427 hx (hb hby at_212) (pc' := 216) rfl (by decide) ?_
          exact k_
        obtain ⟨fs, hr, hrun, hended, hW, hsame⟩ := X427.leave (v := some (.int (1 : Int32))) (fun h => by rw [Bd.returns] at h; cases h)
        refine ⟨_, _, pre0 _ (go432 _ ?_), hrun, hended, _, _, rfl, ?_, ⟨_, rfl⟩, hW, hsame.mono (by decide) (by decide)⟩
        · skip
          exact retN X427 hx (t := .boolean) Bd.returns (by simp) (hb hby at_216) hr
        · show Q0 Z p1 p2 p3 h0 n0 _ T427.heap _
          rw [eh427]
          exact ⟨rfl, N427⟩
      · skip
        have go433 : Go p e below s₁ F0 T421 (mkF m 164 #[vi p1, vi p2, vi p3, vi b, vi (1 : Int32), vi l0, vi l1, vi l2, vi (2 : Int32), vi k0, vi k1, vi k2, vr b_279, vr b_387, vr b392, .unset] [(.int k1), (.int l2), (.int l1), (.int l0), (.int (1 : Int32))]) := by
          intro t_ k_
          refine go422 t_ ?_
          refine o_ifNo X421 hx (hb hby at_145) ((if0 _ _).trans (feq hc145_423).1) ?_
          refine o_iload X421 hx (hb hby at_148) rfl ?_
          refine o_iconst X421 hx (hb hby at_150) (v := 2) rfl ?_
          refine o_icmpNo X421 hx (hb hby at_151) (flt (by decide : ¬ ((2 : Int32) < (2 : Int32)))).1 ?_
          refine o_iload X421 hx (hb hby at_154) rfl ?_
          refine o_iload X421 hx (hb hby at_156) rfl ?_
          refine o_iload X421 hx (hb hby at_158) rfl ?_
          refine o_iload X421 hx (hb hby at_160) rfl ?_
          refine o_iload X421 hx (hb hby at_162) rfl ?_
          exact k_
        obtain ⟨_, _, ⟨T434, L434, k434, n434⟩, -, X434, ⟨Lc434, hQ434, l434, y434, z434⟩, st434⟩ := Jvm.LawKit.callS X421 hx (y := y_3) hown (mvT hZ (own_w hw 28 rfl)) (mvT hZ (own_w hw 29 rfl)) (mvT hZ (own_w hw 2 rfl)) (mvT hZ (own_w hw 30 rfl)) (by decide) (backOf (W := 0) (rm5_1 l Z a0 hw [] l0 l1 l2 k1 (T417.heap) n0 Z418 ) hZ (own_w hw 30 rfl) (own_w hw 2 rfl) (by decide) (by decide)) (g := (mkF m 164 #[vi p1, vi p2, vi p3, vi b, vi (1 : Int32), vi l0, vi l1, vi l2, vi (2 : Int32), vi k0, vi k1, vi k2, vr b_279, vr b_387, vr b392, .unset] [(.int k1), (.int l2), (.int l1), (.int l0), (.int (1 : Int32))])) rfl (by rw [hml]; rfl) (argsL := [(.int (1 : Int32)), (.int l0), (.int l1), (.int l2), (.int k1)]) (rest := []) (lenOf pd0_3 rfl) rfl (by show 2 * 0 + _ ≤ _; exact Nat.le_of_eq rfl) (hb hby at_164) (fun _ _ => ⟨rfl, eh421, (by decide : 4 + 0 ≤ _), (by decide : 7 + 0 ≤ _)⟩)
        dsimp only [Pt.U, Pt.locs, Pt.cells, Pt.slots] at X434 l434 y434 z434 st434 hQ434
        subst l434 y434 z434
        obtain ⟨rfl, Nq434, eh434⟩ := hQ434
        have N434 := Fr.app N421 Nq434
        have go435 : Go p e below s₁ F0 T434 (mkF m 167 #[vi p1, vi p2, vi p3, vi b, vi (1 : Int32), vi l0, vi l1, vi l2, vi (2 : Int32), vi k0, vi k1, vi k2, vr b_279, vr b_387, vr b392, .unset] [(.int (f5_1 l0 l1 l2 k1))]) := fun t_ k_ => go433 t_ (st434 t_ k_)
        by_cases hc167_436 : (f5_1 l0 l1 l2 k1) = (0 : Int32)
        · skip
          have F437 : Arv Z T417.heap b_279 kb_279 .int (1 : Int32) [(.int l0)] (.int (0 : Int32)) := ((F404.ext E403).keep Kc417 (ninS ne394 nin0))
          have F438 : Arv Z T417.heap b_387 kb_387 .int (2 : Int32) [(.int k0), (.int k1)] (.int (0 : Int32)) := ((F406.ext E403).keep Kc417 (ninS ne395 nin0))
          have go439 : Go p e below s₁ F0 T434 (mkF m 203 #[vi p1, vi p2, vi p3, vi b, vi (1 : Int32), vi l0, vi l1, vi l2, vi (2 : Int32), vi k0, vi k1, vi k2, vr b_279, vr b_387, vr b392, vi (0 : Int32)] [(.ref b_387), (.ref b392)]) := by
            intro t_ k_
            refine go435 t_ ?_
            refine o_ifYes X434 hx (hb hby at_167) (pc' := 196) rfl (by decide) ((if0 _ _).trans (teq hc167_436).1) ?_
            refine o_iconst X434 hx (hb hby at_196) (v := 0) rfl ?_
            refine o_istore X434 hx (hb hby at_197) (L' := #[vi p1, vi p2, vi p3, vi b, vi (1 : Int32), vi l0, vi l1, vi l2, vi (2 : Int32), vi k0, vi k1, vi k2, vr b_279, vr b_387, vr b392, vi (0 : Int32)]) rfl ?_
            refine o_aload X434 hx (hb hby at_199) rfl rfl ?_
            refine o_aload X434 hx (hb hby at_201) rfl rfl ?_
            exact k_
          have F441 : Exa Z T417.heap b392 c_0 := (F411.keep Kc417)
          obtain ⟨cq440, kq440, q440a, q440b, q440c⟩ := isOf hZ eh434 F441
          obtain ⟨_, _, ⟨T440, L440, k440, n440⟩, -, X440, ⟨Lc440, hQ440, l440, y440, z440⟩, st440⟩ := X434.virtualBack hx (y := y_4) (z := y_4) hown (mvT hZ (own_w hw 31 rfl)) (mvT hZ (own_w hw 32 rfl)) (notFace_of_selects (args := #[]) (mvT hZ (own_w hw 34 rfl))) (mvT hZ (own_w hw 34 rfl)) (mvT hZ (own_w hw 33 rfl)) (by decide) (backOf (W := 0) (rm6_1_2 l Z a0 hw [] b392 b_387 b_279 kb_279 kb_387 l0 k0 k1 (T417.heap) n0 Z418 F4_417 F437 F438 (own_s0 h_b h_k0 h_k1)) hZ (own_w hw 35 rfl) (own_w hw 7 rfl) (by decide) (by decide)) q440a q440c (g := (mkF m 203 #[vi p1, vi p2, vi p3, vi b, vi (1 : Int32), vi l0, vi l1, vi l2, vi (2 : Int32), vi k0, vi k1, vi k2, vr b_279, vr b_387, vr b392, vi (0 : Int32)] [(.ref b_387), (.ref b392)])) rfl (by rw [hml]; rfl) (Steps.refl _) (argsL := [(.ref b_387)]) (rest := []) (lenOf pd0_2 rfl) rfl (by show 2 * 0 + _ ≤ _; exact Nat.le_of_eq rfl) (hb hby at_203) (fun _ _ => ⟨rfl, eh434, (by decide : 4 + 0 ≤ _), (by decide : 7 + 0 ≤ _)⟩)
          dsimp only [Pt.U, Pt.locs, Pt.cells, Pt.slots] at X440 l440 y440 z440 st440 hQ440
          subst l440 y440 z440
          obtain ⟨rfl, Nq440, eh440⟩ := hQ440
          have N440 := Fr.app N434 Nq440
          have go442 : Go p e below s₁ F0 T440 (mkF m 206 #[vi p1, vi p2, vi p3, vi b, vi (1 : Int32), vi l0, vi l1, vi l2, vi (2 : Int32), vi k0, vi k1, vi k2, vr b_279, vr b_387, vr b392, vi (0 : Int32)] [(.int (f6_1_2 l0 k0 k1))]) := fun t_ k_ => go439 t_ (st440.trans k_)
          have go444 : Go p e below s₁ F0 T440 (mkF m 208 #[vi p1, vi p2, vi p3, vi b, vi (1 : Int32), vi l0, vi l1, vi l2, vi (2 : Int32), vi k0, vi k1, vi k2, vr b_279, vr b_387, vr b392, vi (0 : Int32)] [(.int (0 : Int32)), (.int (f6_1_2 l0 k0 k1))]) := by
            intro t_ k_
            refine go442 t_ ?_
            refine o_iload X440 hx (hb hby at_206) rfl ?_
            exact k_
          have hd443 : (f6_1_2 l0 k0 k1) = (0 : Int32) := own_no_1_2_1 l0 l1 l2 k0 k1 k2 (own_s0 h_b h_k0 h_k1) hc167_436
          have go445 : Go p e below s₁ F0 T440 (mkF m 216 #[vi p1, vi p2, vi p3, vi b, vi (1 : Int32), vi l0, vi l1, vi l2, vi (2 : Int32), vi k0, vi k1, vi k2, vr b_279, vr b_387, vr b392, vi (0 : Int32)] [(.int (1 : Int32))]) := by
            intro t_ k_
            refine go444 t_ ?_
            refine o_icmpNo X440 hx (hb hby at_208) (teq hd443).2 ?_
            refine o_iconst X440 hx (hb hby at_211) (v := 1) rfl ?_
            refine o_goto X440 hx (hb hby at_212) (pc' := 216) rfl (by decide) ?_
            exact k_
          obtain ⟨fs, hr, hrun, hended, hW, hsame⟩ := X440.leave (v := some (.int (1 : Int32))) (fun h => by rw [Bd.returns] at h; cases h)
          refine ⟨_, _, pre0 _ (go445 _ ?_), hrun, hended, _, _, rfl, ?_, ⟨_, rfl⟩, hW, hsame.mono (by decide) (by decide)⟩
          · skip
            exact retN X440 hx (t := .boolean) Bd.returns (by simp) (hb hby at_216) hr
          · show Q0 Z p1 p2 p3 h0 n0 _ T440.heap _
            rw [eh440]
            exact ⟨rfl, N440⟩
        · skip
          have F446 : Arv Z T417.heap b_279 kb_279 .int (1 : Int32) [(.int l0)] (.int (0 : Int32)) := ((F404.ext E403).keep Kc417 (ninS ne394 nin0))
          have F447 : Arv Z T417.heap b_387 kb_387 .int (2 : Int32) [(.int k0), (.int k1)] (.int (0 : Int32)) := ((F406.ext E403).keep Kc417 (ninS ne395 nin0))
          have go448 : Go p e below s₁ F0 T434 (mkF m 203 #[vi p1, vi p2, vi p3, vi b, vi (1 : Int32), vi l0, vi l1, vi l2, vi (2 : Int32), vi k0, vi k1, vi k2, vr b_279, vr b_387, vr b392, vi (1 : Int32)] [(.ref b_387), (.ref b392)]) := by
            intro t_ k_
            refine go435 t_ ?_
            refine o_ifNo X434 hx (hb hby at_167) ((if0 _ _).trans (feq hc167_436).1) ?_
            refine o_iload X434 hx (hb hby at_170) rfl ?_
            refine o_iconst X434 hx (hb hby at_172) (v := 3) rfl ?_
            refine o_icmpYes X434 hx (hb hby at_173) (pc' := 192) rfl (by decide) (tlt (by decide : (2 : Int32) < (3 : Int32))).1 ?_
            refine o_iconst X434 hx (hb hby at_192) (v := 1) rfl ?_
            refine o_goto X434 hx (hb hby at_193) (pc' := 197) rfl (by decide) ?_
            refine o_istore X434 hx (hb hby at_197) (L' := #[vi p1, vi p2, vi p3, vi b, vi (1 : Int32), vi l0, vi l1, vi l2, vi (2 : Int32), vi k0, vi k1, vi k2, vr b_279, vr b_387, vr b392, vi (1 : Int32)]) rfl ?_
            refine o_aload X434 hx (hb hby at_199) rfl rfl ?_
            refine o_aload X434 hx (hb hby at_201) rfl rfl ?_
            exact k_
          have F450 : Exa Z T417.heap b392 c_0 := (F411.keep Kc417)
          obtain ⟨cq449, kq449, q449a, q449b, q449c⟩ := isOf hZ eh434 F450
          obtain ⟨_, _, ⟨T449, L449, k449, n449⟩, -, X449, ⟨Lc449, hQ449, l449, y449, z449⟩, st449⟩ := X434.virtualBack hx (y := y_4) (z := y_4) hown (mvT hZ (own_w hw 31 rfl)) (mvT hZ (own_w hw 32 rfl)) (notFace_of_selects (args := #[]) (mvT hZ (own_w hw 34 rfl))) (mvT hZ (own_w hw 34 rfl)) (mvT hZ (own_w hw 33 rfl)) (by decide) (backOf (W := 0) (rm6_1_2 l Z a0 hw [] b392 b_387 b_279 kb_279 kb_387 l0 k0 k1 (T417.heap) n0 Z418 F4_417 F446 F447 (own_s0 h_b h_k0 h_k1)) hZ (own_w hw 35 rfl) (own_w hw 7 rfl) (by decide) (by decide)) q449a q449c (g := (mkF m 203 #[vi p1, vi p2, vi p3, vi b, vi (1 : Int32), vi l0, vi l1, vi l2, vi (2 : Int32), vi k0, vi k1, vi k2, vr b_279, vr b_387, vr b392, vi (1 : Int32)] [(.ref b_387), (.ref b392)])) rfl (by rw [hml]; rfl) (Steps.refl _) (argsL := [(.ref b_387)]) (rest := []) (lenOf pd0_2 rfl) rfl (by show 2 * 0 + _ ≤ _; exact Nat.le_of_eq rfl) (hb hby at_203) (fun _ _ => ⟨rfl, eh434, (by decide : 4 + 0 ≤ _), (by decide : 7 + 0 ≤ _)⟩)
          dsimp only [Pt.U, Pt.locs, Pt.cells, Pt.slots] at X449 l449 y449 z449 st449 hQ449
          subst l449 y449 z449
          obtain ⟨rfl, Nq449, eh449⟩ := hQ449
          have N449 := Fr.app N434 Nq449
          have go451 : Go p e below s₁ F0 T449 (mkF m 206 #[vi p1, vi p2, vi p3, vi b, vi (1 : Int32), vi l0, vi l1, vi l2, vi (2 : Int32), vi k0, vi k1, vi k2, vr b_279, vr b_387, vr b392, vi (1 : Int32)] [(.int (f6_1_2 l0 k0 k1))]) := fun t_ k_ => go448 t_ (st449.trans k_)
          have go453 : Go p e below s₁ F0 T449 (mkF m 208 #[vi p1, vi p2, vi p3, vi b, vi (1 : Int32), vi l0, vi l1, vi l2, vi (2 : Int32), vi k0, vi k1, vi k2, vr b_279, vr b_387, vr b392, vi (1 : Int32)] [(.int (1 : Int32)), (.int (f6_1_2 l0 k0 k1))]) := by
            intro t_ k_
            refine go451 t_ ?_
            refine o_iload X449 hx (hb hby at_206) rfl ?_
            exact k_
          have hd452 : (f6_1_2 l0 k0 k1) = (1 : Int32) := own_yes_1_2 l0 l1 l2 k0 k1 k2 (own_s0 h_b h_k0 h_k1) hc145_423 hc167_436
          have go454 : Go p e below s₁ F0 T449 (mkF m 216 #[vi p1, vi p2, vi p3, vi b, vi (1 : Int32), vi l0, vi l1, vi l2, vi (2 : Int32), vi k0, vi k1, vi k2, vr b_279, vr b_387, vr b392, vi (1 : Int32)] [(.int (1 : Int32))]) := by
            intro t_ k_
            refine go453 t_ ?_
            refine o_icmpNo X449 hx (hb hby at_208) (teq hd452).2 ?_
            refine o_iconst X449 hx (hb hby at_211) (v := 1) rfl ?_
            refine o_goto X449 hx (hb hby at_212) (pc' := 216) rfl (by decide) ?_
            exact k_
          obtain ⟨fs, hr, hrun, hended, hW, hsame⟩ := X449.leave (v := some (.int (1 : Int32))) (fun h => by rw [Bd.returns] at h; cases h)
          refine ⟨_, _, pre0 _ (go454 _ ?_), hrun, hended, _, _, rfl, ?_, ⟨_, rfl⟩, hW, hsame.mono (by decide) (by decide)⟩
          · skip
            exact retN X449 hx (t := .boolean) Bd.returns (by simp) (hb hby at_216) hr
          · show Q0 Z p1 p2 p3 h0 n0 _ T449.heap _
            rw [eh449]
            exact ⟨rfl, N449⟩
    · skip
      have go455 : Go p e below s₁ F0 T279 (mkF m 95 #[vi p1, vi p2, vi p3, vi b, vi (1 : Int32), vi l0, vi l1, vi l2, vi (3 : Int32), vi k0, vi k1, vi k2, vr b_279, .unset, .unset, .unset] []) := by rw [hcs283] at go282; exact go282
      have go456 : Go p e below s₁ F0 T279 (mkF m 103 #[vi p1, vi p2, vi p3, vi b, vi (1 : Int32), vi l0, vi l1, vi l2, vi (3 : Int32), vi k0, vi k1, vi k2, vr b_279, .unset, .unset, .unset] [(.int k2), (.int k1), (.int k0), (.int (3 : Int32))]) := by
        intro t_ k_
        refine go455 t_ ?_
        refine o_iload X279 hx (hb hby at_95) rfl ?_
        refine o_iload X279 hx (hb hby at_97) rfl ?_
        refine o_iload X279 hx (hb hby at_99) rfl ?_
        refine o_iload X279 hx (hb hby at_101) rfl ?_
        exact k_
      obtain ⟨_, _, ⟨T457, L457, k457, n457⟩, -, X457, ⟨Lc457, hQ457, l457, y457, z457⟩, st457⟩ := Jvm.LawKit.callS X279 hx (y := y_1) hown (mvT hZ (own_w hw 0 rfl)) (mvT hZ (own_w hw 1 rfl)) (mvT hZ (own_w hw 2 rfl)) (mvT hZ (own_w hw 3 rfl)) (by decide) (backOf (W := 0) (rm1_3 l Z a0 hw [] k0 k1 k2 (T279.heap) n0 Z280 ) hZ (own_w hw 3 rfl) (own_w hw 2 rfl) (by decide) (by decide)) (g := (mkF m 103 #[vi p1, vi p2, vi p3, vi b, vi (1 : Int32), vi l0, vi l1, vi l2, vi (3 : Int32), vi k0, vi k1, vi k2, vr b_279, .unset, .unset, .unset] [(.int k2), (.int k1), (.int k0), (.int (3 : Int32))])) rfl (by rw [hml]; rfl) (argsL := [(.int (3 : Int32)), (.int k0), (.int k1), (.int k2)]) (rest := []) (lenOf pd0_0 rfl) rfl (by show 2 * 0 + _ ≤ _; exact Nat.le_of_eq rfl) (hb hby at_103) (fun _ _ => ⟨rfl, rfl, (by decide : 1 + 1 ≤ _), (by decide : 1 + 3 ≤ _)⟩)
      dsimp only [Pt.U, Pt.locs, Pt.cells, Pt.slots] at X457 l457 y457 z457 st457 hQ457
      subst l457 y457 z457
      obtain ⟨b_457, kb_457, rfl, Nq457, Kc457, hb_457, V_457⟩ := hQ457
      have N457 := Fr.app N279 Nq457
      have ne458 : b_279 ≠ b_457 := Nat.ne_of_lt (Nat.lt_of_lt_of_le V_279.lt hb_457)
      have g_b_457 : n0 ≤ b_457 := Nat.le_trans Z280 hb_457
      have Z459 : n0 ≤ T457.heap.size := Nat.le_trans Z280 Kc457.1
      have go460 : Go p e below s₁ F0 T457 (mkF m 106 #[vi p1, vi p2, vi p3, vi b, vi (1 : Int32), vi l0, vi l1, vi l2, vi (3 : Int32), vi k0, vi k1, vi k2, vr b_279, .unset, .unset, .unset] [(.ref b_457)]) := fun t_ k_ => go456 t_ (st457 t_ k_)
      have go461 : Go p e below s₁ F0 T457 (mkF m 108 #[vi p1, vi p2, vi p3, vi b, vi (1 : Int32), vi l0, vi l1, vi l2, vi (3 : Int32), vi k0, vi k1, vi k2, vr b_279, vr b_457, .unset, .unset] []) := by
        intro t_ k_
        refine go460 t_ ?_
        refine o_astore X457 hx (hb hby at_106) rfl (L' := #[vi p1, vi p2, vi p3, vi b, vi (1 : Int32), vi l0, vi l1, vi l2, vi (3 : Int32), vi k0, vi k1, vi k2, vr b_279, vr b_457, .unset, .unset]) rfl ?_
        exact k_
      obtain ⟨T462, h462, X462, e462, E462, A462, D462, -, st462⟩ := newO X457 hx hZ hown (own_w hw 5 rfl) (own_w hw 6 rfl) (own_w hw 7 rfl) rfl (g := (mkF m 108 #[vi p1, vi p2, vi p3, vi b, vi (1 : Int32), vi l0, vi l1, vi l2, vi (3 : Int32), vi k0, vi k1, vi k2, vr b_279, vr b_457, .unset, .unset] [])) rfl (hb hby at_108) (by decide) (by decide)
      obtain ⟨b462, gz462⟩ : ∃ z, z = T457.heap.size := ⟨_, rfl⟩
      rw [← gz462] at A462 D462 st462
      have F463 : Arv Z T457.heap b_279 kb_279 .int (1 : Int32) [(.int l0)] (.int (0 : Int32)) := (V_279.keep Kc457 nin0)
      have ne464 : b_279 ≠ b462 := Nat.ne_of_lt (Nat.lt_of_lt_of_le F463.lt (Nat.le_of_eq gz462.symm))
      have ne465 : b_457 ≠ b462 := Nat.ne_of_lt (Nat.lt_of_lt_of_le V_457.lt (Nat.le_of_eq gz462.symm))
      have g_b462 : n0 ≤ b462 := Nat.le_trans Z459 (Nat.le_of_eq gz462.symm)
      have Z466 : n0 ≤ h462.size := Nat.le_trans Z459 E462.1
      have F467 : Fld Z h462 b462 c_0 "id" "J" (.long (0 : Int64)) := D462 (Or.inr (own_w hw 21 rfl)) (ty := .long) (by decide)
      have F468 : Fld Z h462 b462 c_0 "power" "J" (.long (0 : Int64)) := D462 (Or.inr (own_w hw 23 rfl)) (ty := .long) (by decide)
      have F469 : Fld Z h462 b462 c_0 "units" "[I" .null := D462 (Or.inr (own_w hw 25 rfl)) (ty := (.array .int)) (by decide)
      have F470 : Fld Z h462 b462 c_0 "licences" "[I" .null := D462 (Or.inr (own_w hw 27 rfl)) (ty := (.array .int)) (by decide)
      have go471 : Go p e below s₁ F0 T462 (mkF m 111 #[vi p1, vi p2, vi p3, vi b, vi (1 : Int32), vi l0, vi l1, vi l2, vi (3 : Int32), vi k0, vi k1, vi k2, vr b_279, vr b_457, .unset, .unset] [(.ref b462)]) := fun t_ k_ => go461 t_ (st462 t_ k_)
      have go472 : Go p e below s₁ F0 T462 (mkF m 117 #[vi p1, vi p2, vi p3, vi b, vi (1 : Int32), vi l0, vi l1, vi l2, vi (3 : Int32), vi k0, vi k1, vi k2, vr b_279, vr b_457, .unset, .unset] [(.int (0 : Int32)), (.long (1000000 : Int64)), (.long (0 : Int64)), (.ref b462), (.ref b462)]) := by
        intro t_ k_
        refine go471 t_ ?_
        refine o_dup X462 hx (hb hby at_111) rfl ?_
        refine o_lconst X462 hx (hb hby at_112) (v := 0) rfl ?_
        refine o_ldc2 X462 hx hown (mvT hZ (own_w hw 8 rfl)) (hb hby at_113) ?_
        refine o_iconst X462 hx (hb hby at_116) (v := 0) rfl ?_
        exact k_
      obtain ⟨T473, h473, k473, X473, e473, E473, A473, st473⟩ := newP X462 hx hZ (own_w hw 4 rfl) e462 (g := (mkF m 117 #[vi p1, vi p2, vi p3, vi b, vi (1 : Int32), vi l0, vi l1, vi l2, vi (3 : Int32), vi k0, vi k1, vi k2, vr b_279, vr b_457, .unset, .unset] [(.int (0 : Int32)), (.long (1000000 : Int64)), (.long (0 : Int64)), (.ref b462), (.ref b462)])) rfl (hb hby at_117) rfl (by decide) (cap := 0) (by decide) (by decide) (by decide) (by decide)
      obtain ⟨b473, gz473⟩ : ∃ z, z = h462.size := ⟨_, rfl⟩
      rw [← gz473] at A473 st473
      have F474 : Arv Z h462 b_279 kb_279 .int (1 : Int32) [(.int l0)] (.int (0 : Int32)) := (F463.ext E462)
      have ne475 : b_279 ≠ b473 := Nat.ne_of_lt (Nat.lt_of_lt_of_le F474.lt (Nat.le_of_eq gz473.symm))
      have F476 : Arv Z h462 b_457 kb_457 .int (3 : Int32) [(.int k0), (.int k1), (.int k2)] (.int (0 : Int32)) := (V_457.ext E462)
      have ne477 : b_457 ≠ b473 := Nat.ne_of_lt (Nat.lt_of_lt_of_le F476.lt (Nat.le_of_eq gz473.symm))
      have ne478 : b462 ≠ b473 := Nat.ne_of_lt (Nat.lt_of_lt_of_le A462.lt (Nat.le_of_eq gz473.symm))
      have g_b473 : n0 ≤ b473 := Nat.le_trans Z466 (Nat.le_of_eq gz473.symm)
      have Z479 : n0 ≤ h473.size := Nat.le_trans Z466 E473.1
      have V473 : Arv Z h473 b473 k473 .int (0 : Int32) [] (.int (0 : Int32)) := (Arv.new A473 (by decide)).pad (pad_rep [] (.int (0 : Int32)) 0)
      have go480 : Go p e below s₁ F0 T473 (mkF m 119 #[vi p1, vi p2, vi p3, vi b, vi (1 : Int32), vi l0, vi l1, vi l2, vi (3 : Int32), vi k0, vi k1, vi k2, vr b_279, vr b_457, .unset, .unset] [(.ref b473), (.long (1000000 : Int64)), (.long (0 : Int64)), (.ref b462), (.ref b462)]) := fun t_ k_ => go472 t_ (st473 t_ k_)
      have F481 : Exa Z h473 b462 c_0 := (A462.ext E473)
      have F482 : Fld Z h473 b462 c_0 "id" "J" (.long (0 : Int64)) := (F467.ext E473)
      have F483 : Fld Z h473 b462 c_0 "power" "J" (.long (0 : Int64)) := (F468.ext E473)
      have F484 : Fld Z h473 b462 c_0 "units" "[I" .null := (F469.ext E473)
      have F485 : Fld Z h473 b462 c_0 "licences" "[I" .null := (F470.ext E473)
      have go486 : Go p e below s₁ F0 T473 (mkF m 121 #[vi p1, vi p2, vi p3, vi b, vi (1 : Int32), vi l0, vi l1, vi l2, vi (3 : Int32), vi k0, vi k1, vi k2, vr b_279, vr b_457, .unset, .unset] [(.ref b_279), (.ref b473), (.long (1000000 : Int64)), (.long (0 : Int64)), (.ref b462), (.ref b462)]) := by
        intro t_ k_
        refine go480 t_ ?_
        refine o_aload X473 hx (hb hby at_119) rfl rfl ?_
        exact k_
      obtain ⟨_, _, ⟨T487, L487, k487, n487⟩, -, X487, ⟨Lc487, hQ487, l487, y487, z487⟩, st487⟩ := X473.specialBack hx (y := y_2) rfl hown (mvT hZ (own_w hw 9 rfl)) (mvT hZ (own_w hw 10 rfl)) (mvT hZ (own_w hw 11 rfl)) (by decide) (backOf (W := 1) (rm2 l Z a0 hw [] b462 (0 : Int64) (1000000 : Int64) b473 b_279 h473 n0 Z479 F481 F482 F483 F484 F485 g_b462) hZ (own_w hw 11 rfl) (own_w hw 7 rfl) (by decide) (by decide)) (g := (mkF m 121 #[vi p1, vi p2, vi p3, vi b, vi (1 : Int32), vi l0, vi l1, vi l2, vi (3 : Int32), vi k0, vi k1, vi k2, vr b_279, vr b_457, .unset, .unset] [(.ref b_279), (.ref b473), (.long (1000000 : Int64)), (.long (0 : Int64)), (.ref b462), (.ref b462)])) rfl (by rw [hml]; rfl) (Steps.refl _) (a := b462) (argsL := [(.long (0 : Int64)), (.long (1000000 : Int64)), (.ref b473), (.ref b_279)]) (rest := [(.ref b462)]) (lenOf pd0_1 rfl) rfl (by show 2 * 0 + _ ≤ _; exact Nat.le_of_eq rfl) (hb hby at_121) (fun _ _ => ⟨rfl, e473, (by decide : 4 + 0 ≤ _), (by decide : 8 + 0 ≤ _)⟩)
      dsimp only [Pt.U, Pt.locs, Pt.cells, Pt.slots] at X487 l487 y487 z487 st487 hQ487
      subst l487 y487 z487
      obtain ⟨rfl, Nq487, Kc487, F4_487⟩ := hQ487
      have N487 := Fr.app N457 Nq487
      have Z488 : n0 ≤ T487.heap.size := Nat.le_trans Z479 Kc487.1
      have go489 : Go p e below s₁ F0 T487 (mkF m 124 #[vi p1, vi p2, vi p3, vi b, vi (1 : Int32), vi l0, vi l1, vi l2, vi (3 : Int32), vi k0, vi k1, vi k2, vr b_279, vr b_457, .unset, .unset] [(.ref b462)]) := fun t_ k_ => go486 t_ (st487.trans k_)
      have go490 : Go p e below s₁ F0 T487 (mkF m 142 #[vi p1, vi p2, vi p3, vi b, vi (1 : Int32), vi l0, vi l1, vi l2, vi (3 : Int32), vi k0, vi k1, vi k2, vr b_279, vr b_457, vr b462, .unset] [(.int k0), (.int l2), (.int l1), (.int l0), (.int (1 : Int32))]) := by
        intro t_ k_
        refine go489 t_ ?_
        refine o_astore X487 hx (hb hby at_124) rfl (L' := #[vi p1, vi p2, vi p3, vi b, vi (1 : Int32), vi l0, vi l1, vi l2, vi (3 : Int32), vi k0, vi k1, vi k2, vr b_279, vr b_457, vr b462, .unset]) rfl ?_
        refine o_iload X487 hx (hb hby at_126) rfl ?_
        refine o_iconst X487 hx (hb hby at_128) (v := 1) rfl ?_
        refine o_icmpNo X487 hx (hb hby at_129) (flt (by decide : ¬ ((3 : Int32) < (1 : Int32)))).1 ?_
        refine o_iload X487 hx (hb hby at_132) rfl ?_
        refine o_iload X487 hx (hb hby at_134) rfl ?_
        refine o_iload X487 hx (hb hby at_136) rfl ?_
        refine o_iload X487 hx (hb hby at_138) rfl ?_
        refine o_iload X487 hx (hb hby at_140) rfl ?_
        exact k_
      obtain ⟨_, _, ⟨T491, L491, k491, n491⟩, -, X491, ⟨Lc491, hQ491, l491, y491, z491⟩, st491⟩ := Jvm.LawKit.callS X487 hx (y := y_3) hown (mvT hZ (own_w hw 28 rfl)) (mvT hZ (own_w hw 29 rfl)) (mvT hZ (own_w hw 2 rfl)) (mvT hZ (own_w hw 30 rfl)) (by decide) (backOf (W := 0) (rm5_1 l Z a0 hw [] l0 l1 l2 k0 (T487.heap) n0 Z488 ) hZ (own_w hw 30 rfl) (own_w hw 2 rfl) (by decide) (by decide)) (g := (mkF m 142 #[vi p1, vi p2, vi p3, vi b, vi (1 : Int32), vi l0, vi l1, vi l2, vi (3 : Int32), vi k0, vi k1, vi k2, vr b_279, vr b_457, vr b462, .unset] [(.int k0), (.int l2), (.int l1), (.int l0), (.int (1 : Int32))])) rfl (by rw [hml]; rfl) (argsL := [(.int (1 : Int32)), (.int l0), (.int l1), (.int l2), (.int k0)]) (rest := []) (lenOf pd0_3 rfl) rfl (by show 2 * 0 + _ ≤ _; exact Nat.le_of_eq rfl) (hb hby at_142) (fun _ _ => ⟨rfl, rfl, (by decide : 4 + 0 ≤ _), (by decide : 8 + 0 ≤ _)⟩)
      dsimp only [Pt.U, Pt.locs, Pt.cells, Pt.slots] at X491 l491 y491 z491 st491 hQ491
      subst l491 y491 z491
      obtain ⟨rfl, Nq491, eh491⟩ := hQ491
      have N491 := Fr.app N487 Nq491
      have go492 : Go p e below s₁ F0 T491 (mkF m 145 #[vi p1, vi p2, vi p3, vi b, vi (1 : Int32), vi l0, vi l1, vi l2, vi (3 : Int32), vi k0, vi k1, vi k2, vr b_279, vr b_457, vr b462, .unset] [(.int (f5_1 l0 l1 l2 k0))]) := fun t_ k_ => go490 t_ (st491 t_ k_)
      by_cases hc145_493 : (f5_1 l0 l1 l2 k0) = (0 : Int32)
      · skip
        have F494 : Arv Z T487.heap b_279 kb_279 .int (1 : Int32) [(.int l0)] (.int (0 : Int32)) := ((F474.ext E473).keep Kc487 (ninS ne464 nin0))
        have F495 : Arv Z T487.heap b_457 kb_457 .int (3 : Int32) [(.int k0), (.int k1), (.int k2)] (.int (0 : Int32)) := ((F476.ext E473).keep Kc487 (ninS ne465 nin0))
        have go496 : Go p e below s₁ F0 T491 (mkF m 203 #[vi p1, vi p2, vi p3, vi b, vi (1 : Int32), vi l0, vi l1, vi l2, vi (3 : Int32), vi k0, vi k1, vi k2, vr b_279, vr b_457, vr b462, vi (0 : Int32)] [(.ref b_457), (.ref b462)]) := by
          intro t_ k_
          refine go492 t_ ?_
          refine o_ifYes X491 hx (hb hby at_145) (pc' := 196) rfl (by decide) ((if0 _ _).trans (teq hc145_493).1) ?_
          refine o_iconst X491 hx (hb hby at_196) (v := 0) rfl ?_
          refine o_istore X491 hx (hb hby at_197) (L' := #[vi p1, vi p2, vi p3, vi b, vi (1 : Int32), vi l0, vi l1, vi l2, vi (3 : Int32), vi k0, vi k1, vi k2, vr b_279, vr b_457, vr b462, vi (0 : Int32)]) rfl ?_
          refine o_aload X491 hx (hb hby at_199) rfl rfl ?_
          refine o_aload X491 hx (hb hby at_201) rfl rfl ?_
          exact k_
        have F498 : Exa Z T487.heap b462 c_0 := (F481.keep Kc487)
        obtain ⟨cq497, kq497, q497a, q497b, q497c⟩ := isOf hZ eh491 F498
        obtain ⟨_, _, ⟨T497, L497, k497, n497⟩, -, X497, ⟨Lc497, hQ497, l497, y497, z497⟩, st497⟩ := X491.virtualBack hx (y := y_4) (z := y_4) hown (mvT hZ (own_w hw 31 rfl)) (mvT hZ (own_w hw 32 rfl)) (notFace_of_selects (args := #[]) (mvT hZ (own_w hw 34 rfl))) (mvT hZ (own_w hw 34 rfl)) (mvT hZ (own_w hw 33 rfl)) (by decide) (backOf (W := 0) (rm6_1_3 l Z a0 hw [] b462 b_457 b_279 kb_279 kb_457 l0 k0 k1 k2 (T487.heap) n0 Z488 F4_487 F494 F495 (own_s0 h_b h_k0 h_k1) (own_s1 h_b h_k0 h_k1 h_k2)) hZ (own_w hw 35 rfl) (own_w hw 7 rfl) (by decide) (by decide)) q497a q497c (g := (mkF m 203 #[vi p1, vi p2, vi p3, vi b, vi (1 : Int32), vi l0, vi l1, vi l2, vi (3 : Int32), vi k0, vi k1, vi k2, vr b_279, vr b_457, vr b462, vi (0 : Int32)] [(.ref b_457), (.ref b462)])) rfl (by rw [hml]; rfl) (Steps.refl _) (argsL := [(.ref b_457)]) (rest := []) (lenOf pd0_2 rfl) rfl (by show 2 * 0 + _ ≤ _; exact Nat.le_of_eq rfl) (hb hby at_203) (fun _ _ => ⟨rfl, eh491, (by decide : 4 + 0 ≤ _), (by decide : 8 + 0 ≤ _)⟩)
        dsimp only [Pt.U, Pt.locs, Pt.cells, Pt.slots] at X497 l497 y497 z497 st497 hQ497
        subst l497 y497 z497
        obtain ⟨rfl, Nq497, eh497⟩ := hQ497
        have N497 := Fr.app N491 Nq497
        have go499 : Go p e below s₁ F0 T497 (mkF m 206 #[vi p1, vi p2, vi p3, vi b, vi (1 : Int32), vi l0, vi l1, vi l2, vi (3 : Int32), vi k0, vi k1, vi k2, vr b_279, vr b_457, vr b462, vi (0 : Int32)] [(.int (f6_1_3 l0 k0 k1 k2))]) := fun t_ k_ => go496 t_ (st497.trans k_)
        have go501 : Go p e below s₁ F0 T497 (mkF m 208 #[vi p1, vi p2, vi p3, vi b, vi (1 : Int32), vi l0, vi l1, vi l2, vi (3 : Int32), vi k0, vi k1, vi k2, vr b_279, vr b_457, vr b462, vi (0 : Int32)] [(.int (0 : Int32)), (.int (f6_1_3 l0 k0 k1 k2))]) := by
          intro t_ k_
          refine go499 t_ ?_
          refine o_iload X497 hx (hb hby at_206) rfl ?_
          exact k_
        have hd500 : (f6_1_3 l0 k0 k1 k2) = (0 : Int32) := own_no_1_3_0 l0 l1 l2 k0 k1 k2 (own_s0 h_b h_k0 h_k1) (own_s1 h_b h_k0 h_k1 h_k2) hc145_493
        have go502 : Go p e below s₁ F0 T497 (mkF m 216 #[vi p1, vi p2, vi p3, vi b, vi (1 : Int32), vi l0, vi l1, vi l2, vi (3 : Int32), vi k0, vi k1, vi k2, vr b_279, vr b_457, vr b462, vi (0 : Int32)] [(.int (1 : Int32))]) := by
          intro t_ k_
          refine go501 t_ ?_
          refine o_icmpNo X497 hx (hb hby at_208) (teq hd500).2 ?_
          refine o_iconst X497 hx (hb hby at_211) (v := 1) rfl ?_
          refine o_goto X497 hx (hb hby at_212) (pc' := 216) rfl (by decide) ?_
          exact k_
        obtain ⟨fs, hr, hrun, hended, hW, hsame⟩ := X497.leave (v := some (.int (1 : Int32))) (fun h => by rw [Bd.returns] at h; cases h)
        refine ⟨_, _, pre0 _ (go502 _ ?_), hrun, hended, _, _, rfl, ?_, ⟨_, rfl⟩, hW, hsame.mono (by decide) (by decide)⟩
        · skip
          exact retN X497 hx (t := .boolean) Bd.returns (by simp) (hb hby at_216) hr
        · show Q0 Z p1 p2 p3 h0 n0 _ T497.heap _
          rw [eh497]
          exact ⟨rfl, N497⟩
      · skip
        have go503 : Go p e below s₁ F0 T491 (mkF m 164 #[vi p1, vi p2, vi p3, vi b, vi (1 : Int32), vi l0, vi l1, vi l2, vi (3 : Int32), vi k0, vi k1, vi k2, vr b_279, vr b_457, vr b462, .unset] [(.int k1), (.int l2), (.int l1), (.int l0), (.int (1 : Int32))]) := by
          intro t_ k_
          refine go492 t_ ?_
          refine o_ifNo X491 hx (hb hby at_145) ((if0 _ _).trans (feq hc145_493).1) ?_
          refine o_iload X491 hx (hb hby at_148) rfl ?_
          refine o_iconst X491 hx (hb hby at_150) (v := 2) rfl ?_
          refine o_icmpNo X491 hx (hb hby at_151) (flt (by decide : ¬ ((3 : Int32) < (2 : Int32)))).1 ?_
          refine o_iload X491 hx (hb hby at_154) rfl ?_
          refine o_iload X491 hx (hb hby at_156) rfl ?_
          refine o_iload X491 hx (hb hby at_158) rfl ?_
          refine o_iload X491 hx (hb hby at_160) rfl ?_
          refine o_iload X491 hx (hb hby at_162) rfl ?_
          exact k_
        obtain ⟨_, _, ⟨T504, L504, k504, n504⟩, -, X504, ⟨Lc504, hQ504, l504, y504, z504⟩, st504⟩ := Jvm.LawKit.callS X491 hx (y := y_3) hown (mvT hZ (own_w hw 28 rfl)) (mvT hZ (own_w hw 29 rfl)) (mvT hZ (own_w hw 2 rfl)) (mvT hZ (own_w hw 30 rfl)) (by decide) (backOf (W := 0) (rm5_1 l Z a0 hw [] l0 l1 l2 k1 (T487.heap) n0 Z488 ) hZ (own_w hw 30 rfl) (own_w hw 2 rfl) (by decide) (by decide)) (g := (mkF m 164 #[vi p1, vi p2, vi p3, vi b, vi (1 : Int32), vi l0, vi l1, vi l2, vi (3 : Int32), vi k0, vi k1, vi k2, vr b_279, vr b_457, vr b462, .unset] [(.int k1), (.int l2), (.int l1), (.int l0), (.int (1 : Int32))])) rfl (by rw [hml]; rfl) (argsL := [(.int (1 : Int32)), (.int l0), (.int l1), (.int l2), (.int k1)]) (rest := []) (lenOf pd0_3 rfl) rfl (by show 2 * 0 + _ ≤ _; exact Nat.le_of_eq rfl) (hb hby at_164) (fun _ _ => ⟨rfl, eh491, (by decide : 4 + 0 ≤ _), (by decide : 8 + 0 ≤ _)⟩)
        dsimp only [Pt.U, Pt.locs, Pt.cells, Pt.slots] at X504 l504 y504 z504 st504 hQ504
        subst l504 y504 z504
        obtain ⟨rfl, Nq504, eh504⟩ := hQ504
        have N504 := Fr.app N491 Nq504
        have go505 : Go p e below s₁ F0 T504 (mkF m 167 #[vi p1, vi p2, vi p3, vi b, vi (1 : Int32), vi l0, vi l1, vi l2, vi (3 : Int32), vi k0, vi k1, vi k2, vr b_279, vr b_457, vr b462, .unset] [(.int (f5_1 l0 l1 l2 k1))]) := fun t_ k_ => go503 t_ (st504 t_ k_)
        by_cases hc167_506 : (f5_1 l0 l1 l2 k1) = (0 : Int32)
        · skip
          have F507 : Arv Z T487.heap b_279 kb_279 .int (1 : Int32) [(.int l0)] (.int (0 : Int32)) := ((F474.ext E473).keep Kc487 (ninS ne464 nin0))
          have F508 : Arv Z T487.heap b_457 kb_457 .int (3 : Int32) [(.int k0), (.int k1), (.int k2)] (.int (0 : Int32)) := ((F476.ext E473).keep Kc487 (ninS ne465 nin0))
          have go509 : Go p e below s₁ F0 T504 (mkF m 203 #[vi p1, vi p2, vi p3, vi b, vi (1 : Int32), vi l0, vi l1, vi l2, vi (3 : Int32), vi k0, vi k1, vi k2, vr b_279, vr b_457, vr b462, vi (0 : Int32)] [(.ref b_457), (.ref b462)]) := by
            intro t_ k_
            refine go505 t_ ?_
            refine o_ifYes X504 hx (hb hby at_167) (pc' := 196) rfl (by decide) ((if0 _ _).trans (teq hc167_506).1) ?_
            refine o_iconst X504 hx (hb hby at_196) (v := 0) rfl ?_
            refine o_istore X504 hx (hb hby at_197) (L' := #[vi p1, vi p2, vi p3, vi b, vi (1 : Int32), vi l0, vi l1, vi l2, vi (3 : Int32), vi k0, vi k1, vi k2, vr b_279, vr b_457, vr b462, vi (0 : Int32)]) rfl ?_
            refine o_aload X504 hx (hb hby at_199) rfl rfl ?_
            refine o_aload X504 hx (hb hby at_201) rfl rfl ?_
            exact k_
          have F511 : Exa Z T487.heap b462 c_0 := (F481.keep Kc487)
          obtain ⟨cq510, kq510, q510a, q510b, q510c⟩ := isOf hZ eh504 F511
          obtain ⟨_, _, ⟨T510, L510, k510, n510⟩, -, X510, ⟨Lc510, hQ510, l510, y510, z510⟩, st510⟩ := X504.virtualBack hx (y := y_4) (z := y_4) hown (mvT hZ (own_w hw 31 rfl)) (mvT hZ (own_w hw 32 rfl)) (notFace_of_selects (args := #[]) (mvT hZ (own_w hw 34 rfl))) (mvT hZ (own_w hw 34 rfl)) (mvT hZ (own_w hw 33 rfl)) (by decide) (backOf (W := 0) (rm6_1_3 l Z a0 hw [] b462 b_457 b_279 kb_279 kb_457 l0 k0 k1 k2 (T487.heap) n0 Z488 F4_487 F507 F508 (own_s0 h_b h_k0 h_k1) (own_s1 h_b h_k0 h_k1 h_k2)) hZ (own_w hw 35 rfl) (own_w hw 7 rfl) (by decide) (by decide)) q510a q510c (g := (mkF m 203 #[vi p1, vi p2, vi p3, vi b, vi (1 : Int32), vi l0, vi l1, vi l2, vi (3 : Int32), vi k0, vi k1, vi k2, vr b_279, vr b_457, vr b462, vi (0 : Int32)] [(.ref b_457), (.ref b462)])) rfl (by rw [hml]; rfl) (Steps.refl _) (argsL := [(.ref b_457)]) (rest := []) (lenOf pd0_2 rfl) rfl (by show 2 * 0 + _ ≤ _; exact Nat.le_of_eq rfl) (hb hby at_203) (fun _ _ => ⟨rfl, eh504, (by decide : 4 + 0 ≤ _), (by decide : 8 + 0 ≤ _)⟩)
          dsimp only [Pt.U, Pt.locs, Pt.cells, Pt.slots] at X510 l510 y510 z510 st510 hQ510
          subst l510 y510 z510
          obtain ⟨rfl, Nq510, eh510⟩ := hQ510
          have N510 := Fr.app N504 Nq510
          have go512 : Go p e below s₁ F0 T510 (mkF m 206 #[vi p1, vi p2, vi p3, vi b, vi (1 : Int32), vi l0, vi l1, vi l2, vi (3 : Int32), vi k0, vi k1, vi k2, vr b_279, vr b_457, vr b462, vi (0 : Int32)] [(.int (f6_1_3 l0 k0 k1 k2))]) := fun t_ k_ => go509 t_ (st510.trans k_)
          have go514 : Go p e below s₁ F0 T510 (mkF m 208 #[vi p1, vi p2, vi p3, vi b, vi (1 : Int32), vi l0, vi l1, vi l2, vi (3 : Int32), vi k0, vi k1, vi k2, vr b_279, vr b_457, vr b462, vi (0 : Int32)] [(.int (0 : Int32)), (.int (f6_1_3 l0 k0 k1 k2))]) := by
            intro t_ k_
            refine go512 t_ ?_
            refine o_iload X510 hx (hb hby at_206) rfl ?_
            exact k_
          have hd513 : (f6_1_3 l0 k0 k1 k2) = (0 : Int32) := own_no_1_3_1 l0 l1 l2 k0 k1 k2 (own_s0 h_b h_k0 h_k1) (own_s1 h_b h_k0 h_k1 h_k2) hc167_506
          have go515 : Go p e below s₁ F0 T510 (mkF m 216 #[vi p1, vi p2, vi p3, vi b, vi (1 : Int32), vi l0, vi l1, vi l2, vi (3 : Int32), vi k0, vi k1, vi k2, vr b_279, vr b_457, vr b462, vi (0 : Int32)] [(.int (1 : Int32))]) := by
            intro t_ k_
            refine go514 t_ ?_
            refine o_icmpNo X510 hx (hb hby at_208) (teq hd513).2 ?_
            refine o_iconst X510 hx (hb hby at_211) (v := 1) rfl ?_
            refine o_goto X510 hx (hb hby at_212) (pc' := 216) rfl (by decide) ?_
            exact k_
          obtain ⟨fs, hr, hrun, hended, hW, hsame⟩ := X510.leave (v := some (.int (1 : Int32))) (fun h => by rw [Bd.returns] at h; cases h)
          refine ⟨_, _, pre0 _ (go515 _ ?_), hrun, hended, _, _, rfl, ?_, ⟨_, rfl⟩, hW, hsame.mono (by decide) (by decide)⟩
          · skip
            exact retN X510 hx (t := .boolean) Bd.returns (by simp) (hb hby at_216) hr
          · show Q0 Z p1 p2 p3 h0 n0 _ T510.heap _
            rw [eh510]
            exact ⟨rfl, N510⟩
        · skip
          have go516 : Go p e below s₁ F0 T504 (mkF m 186 #[vi p1, vi p2, vi p3, vi b, vi (1 : Int32), vi l0, vi l1, vi l2, vi (3 : Int32), vi k0, vi k1, vi k2, vr b_279, vr b_457, vr b462, .unset] [(.int k2), (.int l2), (.int l1), (.int l0), (.int (1 : Int32))]) := by
            intro t_ k_
            refine go505 t_ ?_
            refine o_ifNo X504 hx (hb hby at_167) ((if0 _ _).trans (feq hc167_506).1) ?_
            refine o_iload X504 hx (hb hby at_170) rfl ?_
            refine o_iconst X504 hx (hb hby at_172) (v := 3) rfl ?_
            refine o_icmpNo X504 hx (hb hby at_173) (flt (by decide : ¬ ((3 : Int32) < (3 : Int32)))).1 ?_
            refine o_iload X504 hx (hb hby at_176) rfl ?_
            refine o_iload X504 hx (hb hby at_178) rfl ?_
            refine o_iload X504 hx (hb hby at_180) rfl ?_
            refine o_iload X504 hx (hb hby at_182) rfl ?_
            refine o_iload X504 hx (hb hby at_184) rfl ?_
            exact k_
          obtain ⟨_, _, ⟨T517, L517, k517, n517⟩, -, X517, ⟨Lc517, hQ517, l517, y517, z517⟩, st517⟩ := Jvm.LawKit.callS X504 hx (y := y_3) hown (mvT hZ (own_w hw 28 rfl)) (mvT hZ (own_w hw 29 rfl)) (mvT hZ (own_w hw 2 rfl)) (mvT hZ (own_w hw 30 rfl)) (by decide) (backOf (W := 0) (rm5_1 l Z a0 hw [] l0 l1 l2 k2 (T487.heap) n0 Z488 ) hZ (own_w hw 30 rfl) (own_w hw 2 rfl) (by decide) (by decide)) (g := (mkF m 186 #[vi p1, vi p2, vi p3, vi b, vi (1 : Int32), vi l0, vi l1, vi l2, vi (3 : Int32), vi k0, vi k1, vi k2, vr b_279, vr b_457, vr b462, .unset] [(.int k2), (.int l2), (.int l1), (.int l0), (.int (1 : Int32))])) rfl (by rw [hml]; rfl) (argsL := [(.int (1 : Int32)), (.int l0), (.int l1), (.int l2), (.int k2)]) (rest := []) (lenOf pd0_3 rfl) rfl (by show 2 * 0 + _ ≤ _; exact Nat.le_of_eq rfl) (hb hby at_186) (fun _ _ => ⟨rfl, eh504, (by decide : 4 + 0 ≤ _), (by decide : 8 + 0 ≤ _)⟩)
          dsimp only [Pt.U, Pt.locs, Pt.cells, Pt.slots] at X517 l517 y517 z517 st517 hQ517
          subst l517 y517 z517
          obtain ⟨rfl, Nq517, eh517⟩ := hQ517
          have N517 := Fr.app N504 Nq517
          have go518 : Go p e below s₁ F0 T517 (mkF m 189 #[vi p1, vi p2, vi p3, vi b, vi (1 : Int32), vi l0, vi l1, vi l2, vi (3 : Int32), vi k0, vi k1, vi k2, vr b_279, vr b_457, vr b462, .unset] [(.int (f5_1 l0 l1 l2 k2))]) := fun t_ k_ => go516 t_ (st517 t_ k_)
          by_cases hc189_519 : (f5_1 l0 l1 l2 k2) = (0 : Int32)
          · skip
            have F520 : Arv Z T487.heap b_279 kb_279 .int (1 : Int32) [(.int l0)] (.int (0 : Int32)) := ((F474.ext E473).keep Kc487 (ninS ne464 nin0))
            have F521 : Arv Z T487.heap b_457 kb_457 .int (3 : Int32) [(.int k0), (.int k1), (.int k2)] (.int (0 : Int32)) := ((F476.ext E473).keep Kc487 (ninS ne465 nin0))
            have go522 : Go p e below s₁ F0 T517 (mkF m 203 #[vi p1, vi p2, vi p3, vi b, vi (1 : Int32), vi l0, vi l1, vi l2, vi (3 : Int32), vi k0, vi k1, vi k2, vr b_279, vr b_457, vr b462, vi (0 : Int32)] [(.ref b_457), (.ref b462)]) := by
              intro t_ k_
              refine go518 t_ ?_
              refine o_ifYes X517 hx (hb hby at_189) (pc' := 196) rfl (by decide) ((if0 _ _).trans (teq hc189_519).1) ?_
              refine o_iconst X517 hx (hb hby at_196) (v := 0) rfl ?_
              refine o_istore X517 hx (hb hby at_197) (L' := #[vi p1, vi p2, vi p3, vi b, vi (1 : Int32), vi l0, vi l1, vi l2, vi (3 : Int32), vi k0, vi k1, vi k2, vr b_279, vr b_457, vr b462, vi (0 : Int32)]) rfl ?_
              refine o_aload X517 hx (hb hby at_199) rfl rfl ?_
              refine o_aload X517 hx (hb hby at_201) rfl rfl ?_
              exact k_
            have F524 : Exa Z T487.heap b462 c_0 := (F481.keep Kc487)
            obtain ⟨cq523, kq523, q523a, q523b, q523c⟩ := isOf hZ eh517 F524
            obtain ⟨_, _, ⟨T523, L523, k523, n523⟩, -, X523, ⟨Lc523, hQ523, l523, y523, z523⟩, st523⟩ := X517.virtualBack hx (y := y_4) (z := y_4) hown (mvT hZ (own_w hw 31 rfl)) (mvT hZ (own_w hw 32 rfl)) (notFace_of_selects (args := #[]) (mvT hZ (own_w hw 34 rfl))) (mvT hZ (own_w hw 34 rfl)) (mvT hZ (own_w hw 33 rfl)) (by decide) (backOf (W := 0) (rm6_1_3 l Z a0 hw [] b462 b_457 b_279 kb_279 kb_457 l0 k0 k1 k2 (T487.heap) n0 Z488 F4_487 F520 F521 (own_s0 h_b h_k0 h_k1) (own_s1 h_b h_k0 h_k1 h_k2)) hZ (own_w hw 35 rfl) (own_w hw 7 rfl) (by decide) (by decide)) q523a q523c (g := (mkF m 203 #[vi p1, vi p2, vi p3, vi b, vi (1 : Int32), vi l0, vi l1, vi l2, vi (3 : Int32), vi k0, vi k1, vi k2, vr b_279, vr b_457, vr b462, vi (0 : Int32)] [(.ref b_457), (.ref b462)])) rfl (by rw [hml]; rfl) (Steps.refl _) (argsL := [(.ref b_457)]) (rest := []) (lenOf pd0_2 rfl) rfl (by show 2 * 0 + _ ≤ _; exact Nat.le_of_eq rfl) (hb hby at_203) (fun _ _ => ⟨rfl, eh517, (by decide : 4 + 0 ≤ _), (by decide : 8 + 0 ≤ _)⟩)
            dsimp only [Pt.U, Pt.locs, Pt.cells, Pt.slots] at X523 l523 y523 z523 st523 hQ523
            subst l523 y523 z523
            obtain ⟨rfl, Nq523, eh523⟩ := hQ523
            have N523 := Fr.app N517 Nq523
            have go525 : Go p e below s₁ F0 T523 (mkF m 206 #[vi p1, vi p2, vi p3, vi b, vi (1 : Int32), vi l0, vi l1, vi l2, vi (3 : Int32), vi k0, vi k1, vi k2, vr b_279, vr b_457, vr b462, vi (0 : Int32)] [(.int (f6_1_3 l0 k0 k1 k2))]) := fun t_ k_ => go522 t_ (st523.trans k_)
            have go527 : Go p e below s₁ F0 T523 (mkF m 208 #[vi p1, vi p2, vi p3, vi b, vi (1 : Int32), vi l0, vi l1, vi l2, vi (3 : Int32), vi k0, vi k1, vi k2, vr b_279, vr b_457, vr b462, vi (0 : Int32)] [(.int (0 : Int32)), (.int (f6_1_3 l0 k0 k1 k2))]) := by
              intro t_ k_
              refine go525 t_ ?_
              refine o_iload X523 hx (hb hby at_206) rfl ?_
              exact k_
            have hd526 : (f6_1_3 l0 k0 k1 k2) = (0 : Int32) := own_no_1_3_2 l0 l1 l2 k0 k1 k2 (own_s0 h_b h_k0 h_k1) (own_s1 h_b h_k0 h_k1 h_k2) hc189_519
            have go528 : Go p e below s₁ F0 T523 (mkF m 216 #[vi p1, vi p2, vi p3, vi b, vi (1 : Int32), vi l0, vi l1, vi l2, vi (3 : Int32), vi k0, vi k1, vi k2, vr b_279, vr b_457, vr b462, vi (0 : Int32)] [(.int (1 : Int32))]) := by
              intro t_ k_
              refine go527 t_ ?_
              refine o_icmpNo X523 hx (hb hby at_208) (teq hd526).2 ?_
              refine o_iconst X523 hx (hb hby at_211) (v := 1) rfl ?_
              refine o_goto X523 hx (hb hby at_212) (pc' := 216) rfl (by decide) ?_
              exact k_
            obtain ⟨fs, hr, hrun, hended, hW, hsame⟩ := X523.leave (v := some (.int (1 : Int32))) (fun h => by rw [Bd.returns] at h; cases h)
            refine ⟨_, _, pre0 _ (go528 _ ?_), hrun, hended, _, _, rfl, ?_, ⟨_, rfl⟩, hW, hsame.mono (by decide) (by decide)⟩
            · skip
              exact retN X523 hx (t := .boolean) Bd.returns (by simp) (hb hby at_216) hr
            · show Q0 Z p1 p2 p3 h0 n0 _ T523.heap _
              rw [eh523]
              exact ⟨rfl, N523⟩
          · skip
            have F529 : Arv Z T487.heap b_279 kb_279 .int (1 : Int32) [(.int l0)] (.int (0 : Int32)) := ((F474.ext E473).keep Kc487 (ninS ne464 nin0))
            have F530 : Arv Z T487.heap b_457 kb_457 .int (3 : Int32) [(.int k0), (.int k1), (.int k2)] (.int (0 : Int32)) := ((F476.ext E473).keep Kc487 (ninS ne465 nin0))
            have go531 : Go p e below s₁ F0 T517 (mkF m 203 #[vi p1, vi p2, vi p3, vi b, vi (1 : Int32), vi l0, vi l1, vi l2, vi (3 : Int32), vi k0, vi k1, vi k2, vr b_279, vr b_457, vr b462, vi (1 : Int32)] [(.ref b_457), (.ref b462)]) := by
              intro t_ k_
              refine go518 t_ ?_
              refine o_ifNo X517 hx (hb hby at_189) ((if0 _ _).trans (feq hc189_519).1) ?_
              refine o_iconst X517 hx (hb hby at_192) (v := 1) rfl ?_
              refine o_goto X517 hx (hb hby at_193) (pc' := 197) rfl (by decide) ?_
              refine o_istore X517 hx (hb hby at_197) (L' := #[vi p1, vi p2, vi p3, vi b, vi (1 : Int32), vi l0, vi l1, vi l2, vi (3 : Int32), vi k0, vi k1, vi k2, vr b_279, vr b_457, vr b462, vi (1 : Int32)]) rfl ?_
              refine o_aload X517 hx (hb hby at_199) rfl rfl ?_
              refine o_aload X517 hx (hb hby at_201) rfl rfl ?_
              exact k_
            have F533 : Exa Z T487.heap b462 c_0 := (F481.keep Kc487)
            obtain ⟨cq532, kq532, q532a, q532b, q532c⟩ := isOf hZ eh517 F533
            obtain ⟨_, _, ⟨T532, L532, k532, n532⟩, -, X532, ⟨Lc532, hQ532, l532, y532, z532⟩, st532⟩ := X517.virtualBack hx (y := y_4) (z := y_4) hown (mvT hZ (own_w hw 31 rfl)) (mvT hZ (own_w hw 32 rfl)) (notFace_of_selects (args := #[]) (mvT hZ (own_w hw 34 rfl))) (mvT hZ (own_w hw 34 rfl)) (mvT hZ (own_w hw 33 rfl)) (by decide) (backOf (W := 0) (rm6_1_3 l Z a0 hw [] b462 b_457 b_279 kb_279 kb_457 l0 k0 k1 k2 (T487.heap) n0 Z488 F4_487 F529 F530 (own_s0 h_b h_k0 h_k1) (own_s1 h_b h_k0 h_k1 h_k2)) hZ (own_w hw 35 rfl) (own_w hw 7 rfl) (by decide) (by decide)) q532a q532c (g := (mkF m 203 #[vi p1, vi p2, vi p3, vi b, vi (1 : Int32), vi l0, vi l1, vi l2, vi (3 : Int32), vi k0, vi k1, vi k2, vr b_279, vr b_457, vr b462, vi (1 : Int32)] [(.ref b_457), (.ref b462)])) rfl (by rw [hml]; rfl) (Steps.refl _) (argsL := [(.ref b_457)]) (rest := []) (lenOf pd0_2 rfl) rfl (by show 2 * 0 + _ ≤ _; exact Nat.le_of_eq rfl) (hb hby at_203) (fun _ _ => ⟨rfl, eh517, (by decide : 4 + 0 ≤ _), (by decide : 8 + 0 ≤ _)⟩)
            dsimp only [Pt.U, Pt.locs, Pt.cells, Pt.slots] at X532 l532 y532 z532 st532 hQ532
            subst l532 y532 z532
            obtain ⟨rfl, Nq532, eh532⟩ := hQ532
            have N532 := Fr.app N517 Nq532
            have go534 : Go p e below s₁ F0 T532 (mkF m 206 #[vi p1, vi p2, vi p3, vi b, vi (1 : Int32), vi l0, vi l1, vi l2, vi (3 : Int32), vi k0, vi k1, vi k2, vr b_279, vr b_457, vr b462, vi (1 : Int32)] [(.int (f6_1_3 l0 k0 k1 k2))]) := fun t_ k_ => go531 t_ (st532.trans k_)
            have go536 : Go p e below s₁ F0 T532 (mkF m 208 #[vi p1, vi p2, vi p3, vi b, vi (1 : Int32), vi l0, vi l1, vi l2, vi (3 : Int32), vi k0, vi k1, vi k2, vr b_279, vr b_457, vr b462, vi (1 : Int32)] [(.int (1 : Int32)), (.int (f6_1_3 l0 k0 k1 k2))]) := by
              intro t_ k_
              refine go534 t_ ?_
              refine o_iload X532 hx (hb hby at_206) rfl ?_
              exact k_
            have hd535 : (f6_1_3 l0 k0 k1 k2) = (1 : Int32) := own_yes_1_3 l0 l1 l2 k0 k1 k2 (own_s0 h_b h_k0 h_k1) (own_s1 h_b h_k0 h_k1 h_k2) hc145_493 hc167_506 hc189_519
            have go537 : Go p e below s₁ F0 T532 (mkF m 216 #[vi p1, vi p2, vi p3, vi b, vi (1 : Int32), vi l0, vi l1, vi l2, vi (3 : Int32), vi k0, vi k1, vi k2, vr b_279, vr b_457, vr b462, vi (1 : Int32)] [(.int (1 : Int32))]) := by
              intro t_ k_
              refine go536 t_ ?_
              refine o_icmpNo X532 hx (hb hby at_208) (teq hd535).2 ?_
              refine o_iconst X532 hx (hb hby at_211) (v := 1) rfl ?_
              refine o_goto X532 hx (hb hby at_212) (pc' := 216) rfl (by decide) ?_
              exact k_
            obtain ⟨fs, hr, hrun, hended, hW, hsame⟩ := X532.leave (v := some (.int (1 : Int32))) (fun h => by rw [Bd.returns] at h; cases h)
            refine ⟨_, _, pre0 _ (go537 _ ?_), hrun, hended, _, _, rfl, ?_, ⟨_, rfl⟩, hW, hsame.mono (by decide) (by decide)⟩
            · skip
              exact retN X532 hx (t := .boolean) Bd.returns (by simp) (hb hby at_216) hr
            · show Q0 Z p1 p2 p3 h0 n0 _ T532.heap _
              rw [eh532]
              exact ⟨rfl, N532⟩
  · skip
    have go538 : Go p e below s₁ F0 s₁ (mkF m 82 #[vi p1, vi p2, vi p3, vi b, vi (2 : Int32), vi l0, vi l1, vi l2, vi (p3 &&& (3 : Int32)), vi k0, vi k1, vi k2, .unset, .unset, .unset, .unset] []) := by rw [hcs15] at go14; exact go14
    have go539 : Go p e below s₁ F0 s₁ (mkF m 90 #[vi p1, vi p2, vi p3, vi b, vi (2 : Int32), vi l0, vi l1, vi l2, vi (p3 &&& (3 : Int32)), vi k0, vi k1, vi k2, .unset, .unset, .unset, .unset] [(.int l2), (.int l1), (.int l0), (.int (2 : Int32))]) := by
      intro t_ k_
      refine go538 t_ ?_
      refine o_iload X0 hx (hb hby at_82) rfl ?_
      refine o_iload X0 hx (hb hby at_84) rfl ?_
      refine o_iload X0 hx (hb hby at_86) rfl ?_
      refine o_iload X0 hx (hb hby at_88) rfl ?_
      exact k_
    obtain ⟨_, _, ⟨T540, L540, k540, n540⟩, -, X540, ⟨Lc540, hQ540, l540, y540, z540⟩, st540⟩ := Jvm.LawKit.callS X0 hx (y := y_1) hown (mvT hZ (own_w hw 0 rfl)) (mvT hZ (own_w hw 1 rfl)) (mvT hZ (own_w hw 2 rfl)) (mvT hZ (own_w hw 3 rfl)) (by decide) (backOf (W := 0) (rm1_2 l Z a0 hw [] l0 l1 l2 h0 n0 Z0 ) hZ (own_w hw 3 rfl) (own_w hw 2 rfl) (by decide) (by decide)) (g := (mkF m 90 #[vi p1, vi p2, vi p3, vi b, vi (2 : Int32), vi l0, vi l1, vi l2, vi (p3 &&& (3 : Int32)), vi k0, vi k1, vi k2, .unset, .unset, .unset, .unset] [(.int l2), (.int l1), (.int l0), (.int (2 : Int32))])) rfl (by rw [hml]; rfl) (argsL := [(.int (2 : Int32)), (.int l0), (.int l1), (.int l2)]) (rest := []) (lenOf pd0_0 rfl) rfl (by show 2 * 0 + _ ≤ _; exact Nat.le_of_eq rfl) (hb hby at_90) (fun _ _ => ⟨rfl, e0, (by decide : 0 + 1 ≤ _), (by decide : 0 + 2 ≤ _)⟩)
    dsimp only [Pt.U, Pt.locs, Pt.cells, Pt.slots] at X540 l540 y540 z540 st540 hQ540
    subst l540 y540 z540
    obtain ⟨b_540, kb_540, rfl, Nq540, Kc540, hb_540, V_540⟩ := hQ540
    have N540 := Fr.app N0 Nq540
    have g_b_540 : n0 ≤ b_540 := Nat.le_trans Z0 hb_540
    have Z541 : n0 ≤ T540.heap.size := Nat.le_trans Z0 Kc540.1
    have go542 : Go p e below s₁ F0 T540 (mkF m 93 #[vi p1, vi p2, vi p3, vi b, vi (2 : Int32), vi l0, vi l1, vi l2, vi (p3 &&& (3 : Int32)), vi k0, vi k1, vi k2, .unset, .unset, .unset, .unset] [(.ref b_540)]) := fun t_ k_ => go539 t_ (st540 t_ k_)
    have go543 : Go p e below s₁ F0 T540 (mkF m 95 #[vi p1, vi p2, vi p3, vi b, vi (2 : Int32), vi l0, vi l1, vi l2, vi (p3 &&& (3 : Int32)), vi k0, vi k1, vi k2, vr b_540, .unset, .unset, .unset] []) := by
      intro t_ k_
      refine go542 t_ ?_
      refine o_astore X540 hx (hb hby at_93) rfl (L' := #[vi p1, vi p2, vi p3, vi b, vi (2 : Int32), vi l0, vi l1, vi l2, vi (p3 &&& (3 : Int32)), vi k0, vi k1, vi k2, vr b_540, .unset, .unset, .unset]) rfl ?_
      exact k_
    have hcs544 : (p3 &&& (3 : Int32)) = (0 : Int32) ∨ (p3 &&& (3 : Int32)) = (1 : Int32) ∨ (p3 &&& (3 : Int32)) = (2 : Int32) ∨ (p3 &&& (3 : Int32)) = (3 : Int32) := own_4 _
    rcases hcs544 with hcs544 | hcs544 | hcs544 | hcs544
    · skip
      have go545 : Go p e below s₁ F0 T540 (mkF m 95 #[vi p1, vi p2, vi p3, vi b, vi (2 : Int32), vi l0, vi l1, vi l2, vi (0 : Int32), vi k0, vi k1, vi k2, vr b_540, .unset, .unset, .unset] []) := by rw [hcs544] at go543; exact go543
      have go546 : Go p e below s₁ F0 T540 (mkF m 103 #[vi p1, vi p2, vi p3, vi b, vi (2 : Int32), vi l0, vi l1, vi l2, vi (0 : Int32), vi k0, vi k1, vi k2, vr b_540, .unset, .unset, .unset] [(.int k2), (.int k1), (.int k0), (.int (0 : Int32))]) := by
        intro t_ k_
        refine go545 t_ ?_
        refine o_iload X540 hx (hb hby at_95) rfl ?_
        refine o_iload X540 hx (hb hby at_97) rfl ?_
        refine o_iload X540 hx (hb hby at_99) rfl ?_
        refine o_iload X540 hx (hb hby at_101) rfl ?_
        exact k_
      obtain ⟨_, _, ⟨T547, L547, k547, n547⟩, -, X547, ⟨Lc547, hQ547, l547, y547, z547⟩, st547⟩ := Jvm.LawKit.callS X540 hx (y := y_1) hown (mvT hZ (own_w hw 0 rfl)) (mvT hZ (own_w hw 1 rfl)) (mvT hZ (own_w hw 2 rfl)) (mvT hZ (own_w hw 3 rfl)) (by decide) (backOf (W := 0) (rm1_0 l Z a0 hw [] k0 k1 k2 (T540.heap) n0 Z541 ) hZ (own_w hw 3 rfl) (own_w hw 2 rfl) (by decide) (by decide)) (g := (mkF m 103 #[vi p1, vi p2, vi p3, vi b, vi (2 : Int32), vi l0, vi l1, vi l2, vi (0 : Int32), vi k0, vi k1, vi k2, vr b_540, .unset, .unset, .unset] [(.int k2), (.int k1), (.int k0), (.int (0 : Int32))])) rfl (by rw [hml]; rfl) (argsL := [(.int (0 : Int32)), (.int k0), (.int k1), (.int k2)]) (rest := []) (lenOf pd0_0 rfl) rfl (by show 2 * 0 + _ ≤ _; exact Nat.le_of_eq rfl) (hb hby at_103) (fun _ _ => ⟨rfl, rfl, (by decide : 1 + 1 ≤ _), (by decide : 2 + 0 ≤ _)⟩)
      dsimp only [Pt.U, Pt.locs, Pt.cells, Pt.slots] at X547 l547 y547 z547 st547 hQ547
      subst l547 y547 z547
      obtain ⟨b_547, kb_547, rfl, Nq547, Kc547, hb_547, V_547⟩ := hQ547
      have N547 := Fr.app N540 Nq547
      have ne548 : b_540 ≠ b_547 := Nat.ne_of_lt (Nat.lt_of_lt_of_le V_540.lt hb_547)
      have g_b_547 : n0 ≤ b_547 := Nat.le_trans Z541 hb_547
      have Z549 : n0 ≤ T547.heap.size := Nat.le_trans Z541 Kc547.1
      have go550 : Go p e below s₁ F0 T547 (mkF m 106 #[vi p1, vi p2, vi p3, vi b, vi (2 : Int32), vi l0, vi l1, vi l2, vi (0 : Int32), vi k0, vi k1, vi k2, vr b_540, .unset, .unset, .unset] [(.ref b_547)]) := fun t_ k_ => go546 t_ (st547 t_ k_)
      have go551 : Go p e below s₁ F0 T547 (mkF m 108 #[vi p1, vi p2, vi p3, vi b, vi (2 : Int32), vi l0, vi l1, vi l2, vi (0 : Int32), vi k0, vi k1, vi k2, vr b_540, vr b_547, .unset, .unset] []) := by
        intro t_ k_
        refine go550 t_ ?_
        refine o_astore X547 hx (hb hby at_106) rfl (L' := #[vi p1, vi p2, vi p3, vi b, vi (2 : Int32), vi l0, vi l1, vi l2, vi (0 : Int32), vi k0, vi k1, vi k2, vr b_540, vr b_547, .unset, .unset]) rfl ?_
        exact k_
      obtain ⟨T552, h552, X552, e552, E552, A552, D552, -, st552⟩ := newO X547 hx hZ hown (own_w hw 5 rfl) (own_w hw 6 rfl) (own_w hw 7 rfl) rfl (g := (mkF m 108 #[vi p1, vi p2, vi p3, vi b, vi (2 : Int32), vi l0, vi l1, vi l2, vi (0 : Int32), vi k0, vi k1, vi k2, vr b_540, vr b_547, .unset, .unset] [])) rfl (hb hby at_108) (by decide) (by decide)
      obtain ⟨b552, gz552⟩ : ∃ z, z = T547.heap.size := ⟨_, rfl⟩
      rw [← gz552] at A552 D552 st552
      have F553 : Arv Z T547.heap b_540 kb_540 .int (2 : Int32) [(.int l0), (.int l1)] (.int (0 : Int32)) := (V_540.keep Kc547 nin0)
      have ne554 : b_540 ≠ b552 := Nat.ne_of_lt (Nat.lt_of_lt_of_le F553.lt (Nat.le_of_eq gz552.symm))
      have ne555 : b_547 ≠ b552 := Nat.ne_of_lt (Nat.lt_of_lt_of_le V_547.lt (Nat.le_of_eq gz552.symm))
      have g_b552 : n0 ≤ b552 := Nat.le_trans Z549 (Nat.le_of_eq gz552.symm)
      have Z556 : n0 ≤ h552.size := Nat.le_trans Z549 E552.1
      have F557 : Fld Z h552 b552 c_0 "id" "J" (.long (0 : Int64)) := D552 (Or.inr (own_w hw 21 rfl)) (ty := .long) (by decide)
      have F558 : Fld Z h552 b552 c_0 "power" "J" (.long (0 : Int64)) := D552 (Or.inr (own_w hw 23 rfl)) (ty := .long) (by decide)
      have F559 : Fld Z h552 b552 c_0 "units" "[I" .null := D552 (Or.inr (own_w hw 25 rfl)) (ty := (.array .int)) (by decide)
      have F560 : Fld Z h552 b552 c_0 "licences" "[I" .null := D552 (Or.inr (own_w hw 27 rfl)) (ty := (.array .int)) (by decide)
      have go561 : Go p e below s₁ F0 T552 (mkF m 111 #[vi p1, vi p2, vi p3, vi b, vi (2 : Int32), vi l0, vi l1, vi l2, vi (0 : Int32), vi k0, vi k1, vi k2, vr b_540, vr b_547, .unset, .unset] [(.ref b552)]) := fun t_ k_ => go551 t_ (st552 t_ k_)
      have go562 : Go p e below s₁ F0 T552 (mkF m 117 #[vi p1, vi p2, vi p3, vi b, vi (2 : Int32), vi l0, vi l1, vi l2, vi (0 : Int32), vi k0, vi k1, vi k2, vr b_540, vr b_547, .unset, .unset] [(.int (0 : Int32)), (.long (1000000 : Int64)), (.long (0 : Int64)), (.ref b552), (.ref b552)]) := by
        intro t_ k_
        refine go561 t_ ?_
        refine o_dup X552 hx (hb hby at_111) rfl ?_
        refine o_lconst X552 hx (hb hby at_112) (v := 0) rfl ?_
        refine o_ldc2 X552 hx hown (mvT hZ (own_w hw 8 rfl)) (hb hby at_113) ?_
        refine o_iconst X552 hx (hb hby at_116) (v := 0) rfl ?_
        exact k_
      obtain ⟨T563, h563, k563, X563, e563, E563, A563, st563⟩ := newP X552 hx hZ (own_w hw 4 rfl) e552 (g := (mkF m 117 #[vi p1, vi p2, vi p3, vi b, vi (2 : Int32), vi l0, vi l1, vi l2, vi (0 : Int32), vi k0, vi k1, vi k2, vr b_540, vr b_547, .unset, .unset] [(.int (0 : Int32)), (.long (1000000 : Int64)), (.long (0 : Int64)), (.ref b552), (.ref b552)])) rfl (hb hby at_117) rfl (by decide) (cap := 0) (by decide) (by decide) (by decide) (by decide)
      obtain ⟨b563, gz563⟩ : ∃ z, z = h552.size := ⟨_, rfl⟩
      rw [← gz563] at A563 st563
      have F564 : Arv Z h552 b_540 kb_540 .int (2 : Int32) [(.int l0), (.int l1)] (.int (0 : Int32)) := (F553.ext E552)
      have ne565 : b_540 ≠ b563 := Nat.ne_of_lt (Nat.lt_of_lt_of_le F564.lt (Nat.le_of_eq gz563.symm))
      have F566 : Arv Z h552 b_547 kb_547 .int (0 : Int32) [] (.int (0 : Int32)) := (V_547.ext E552)
      have ne567 : b_547 ≠ b563 := Nat.ne_of_lt (Nat.lt_of_lt_of_le F566.lt (Nat.le_of_eq gz563.symm))
      have ne568 : b552 ≠ b563 := Nat.ne_of_lt (Nat.lt_of_lt_of_le A552.lt (Nat.le_of_eq gz563.symm))
      have g_b563 : n0 ≤ b563 := Nat.le_trans Z556 (Nat.le_of_eq gz563.symm)
      have Z569 : n0 ≤ h563.size := Nat.le_trans Z556 E563.1
      have V563 : Arv Z h563 b563 k563 .int (0 : Int32) [] (.int (0 : Int32)) := (Arv.new A563 (by decide)).pad (pad_rep [] (.int (0 : Int32)) 0)
      have go570 : Go p e below s₁ F0 T563 (mkF m 119 #[vi p1, vi p2, vi p3, vi b, vi (2 : Int32), vi l0, vi l1, vi l2, vi (0 : Int32), vi k0, vi k1, vi k2, vr b_540, vr b_547, .unset, .unset] [(.ref b563), (.long (1000000 : Int64)), (.long (0 : Int64)), (.ref b552), (.ref b552)]) := fun t_ k_ => go562 t_ (st563 t_ k_)
      have F571 : Exa Z h563 b552 c_0 := (A552.ext E563)
      have F572 : Fld Z h563 b552 c_0 "id" "J" (.long (0 : Int64)) := (F557.ext E563)
      have F573 : Fld Z h563 b552 c_0 "power" "J" (.long (0 : Int64)) := (F558.ext E563)
      have F574 : Fld Z h563 b552 c_0 "units" "[I" .null := (F559.ext E563)
      have F575 : Fld Z h563 b552 c_0 "licences" "[I" .null := (F560.ext E563)
      have go576 : Go p e below s₁ F0 T563 (mkF m 121 #[vi p1, vi p2, vi p3, vi b, vi (2 : Int32), vi l0, vi l1, vi l2, vi (0 : Int32), vi k0, vi k1, vi k2, vr b_540, vr b_547, .unset, .unset] [(.ref b_540), (.ref b563), (.long (1000000 : Int64)), (.long (0 : Int64)), (.ref b552), (.ref b552)]) := by
        intro t_ k_
        refine go570 t_ ?_
        refine o_aload X563 hx (hb hby at_119) rfl rfl ?_
        exact k_
      obtain ⟨_, _, ⟨T577, L577, k577, n577⟩, -, X577, ⟨Lc577, hQ577, l577, y577, z577⟩, st577⟩ := X563.specialBack hx (y := y_2) rfl hown (mvT hZ (own_w hw 9 rfl)) (mvT hZ (own_w hw 10 rfl)) (mvT hZ (own_w hw 11 rfl)) (by decide) (backOf (W := 1) (rm2 l Z a0 hw [] b552 (0 : Int64) (1000000 : Int64) b563 b_540 h563 n0 Z569 F571 F572 F573 F574 F575 g_b552) hZ (own_w hw 11 rfl) (own_w hw 7 rfl) (by decide) (by decide)) (g := (mkF m 121 #[vi p1, vi p2, vi p3, vi b, vi (2 : Int32), vi l0, vi l1, vi l2, vi (0 : Int32), vi k0, vi k1, vi k2, vr b_540, vr b_547, .unset, .unset] [(.ref b_540), (.ref b563), (.long (1000000 : Int64)), (.long (0 : Int64)), (.ref b552), (.ref b552)])) rfl (by rw [hml]; rfl) (Steps.refl _) (a := b552) (argsL := [(.long (0 : Int64)), (.long (1000000 : Int64)), (.ref b563), (.ref b_540)]) (rest := [(.ref b552)]) (lenOf pd0_1 rfl) rfl (by show 2 * 0 + _ ≤ _; exact Nat.le_of_eq rfl) (hb hby at_121) (fun _ _ => ⟨rfl, e563, (by decide : 4 + 0 ≤ _), (by decide : 6 + 0 ≤ _)⟩)
      dsimp only [Pt.U, Pt.locs, Pt.cells, Pt.slots] at X577 l577 y577 z577 st577 hQ577
      subst l577 y577 z577
      obtain ⟨rfl, Nq577, Kc577, F4_577⟩ := hQ577
      have N577 := Fr.app N547 Nq577
      have Z578 : n0 ≤ T577.heap.size := Nat.le_trans Z569 Kc577.1
      have go579 : Go p e below s₁ F0 T577 (mkF m 124 #[vi p1, vi p2, vi p3, vi b, vi (2 : Int32), vi l0, vi l1, vi l2, vi (0 : Int32), vi k0, vi k1, vi k2, vr b_540, vr b_547, .unset, .unset] [(.ref b552)]) := fun t_ k_ => go576 t_ (st577.trans k_)
      have F580 : Arv Z T577.heap b_540 kb_540 .int (2 : Int32) [(.int l0), (.int l1)] (.int (0 : Int32)) := ((F564.ext E563).keep Kc577 (ninS ne554 nin0))
      have F581 : Arv Z T577.heap b_547 kb_547 .int (0 : Int32) [] (.int (0 : Int32)) := ((F566.ext E563).keep Kc577 (ninS ne555 nin0))
      have go582 : Go p e below s₁ F0 T577 (mkF m 203 #[vi p1, vi p2, vi p3, vi b, vi (2 : Int32), vi l0, vi l1, vi l2, vi (0 : Int32), vi k0, vi k1, vi k2, vr b_540, vr b_547, vr b552, vi (1 : Int32)] [(.ref b_547), (.ref b552)]) := by
        intro t_ k_
        refine go579 t_ ?_
        refine o_astore X577 hx (hb hby at_124) rfl (L' := #[vi p1, vi p2, vi p3, vi b, vi (2 : Int32), vi l0, vi l1, vi l2, vi (0 : Int32), vi k0, vi k1, vi k2, vr b_540, vr b_547, vr b552, .unset]) rfl ?_
        refine o_iload X577 hx (hb hby at_126) rfl ?_
        refine o_iconst X577 hx (hb hby at_128) (v := 1) rfl ?_
        refine o_icmpYes X577 hx (hb hby at_129) (pc' := 148) rfl (by decide) (tlt (by decide : (0 : Int32) < (1 : Int32))).1 ?_
        refine o_iload X577 hx (hb hby at_148) rfl ?_
        refine o_iconst X577 hx (hb hby at_150) (v := 2) rfl ?_
        refine o_icmpYes X577 hx (hb hby at_151) (pc' := 170) rfl (by decide) (tlt (by decide : (0 : Int32) < (2 : Int32))).1 ?_
        refine o_iload X577 hx (hb hby at_170) rfl ?_
        refine o_iconst X577 hx (hb hby at_172) (v := 3) rfl ?_
        refine o_icmpYes X577 hx (hb hby at_173) (pc' := 192) rfl (by decide) (tlt (by decide : (0 : Int32) < (3 : Int32))).1 ?_
        refine o_iconst X577 hx (hb hby at_192) (v := 1) rfl ?_
        refine o_goto X577 hx (hb hby at_193) (pc' := 197) rfl (by decide) ?_
        refine o_istore X577 hx (hb hby at_197) (L' := #[vi p1, vi p2, vi p3, vi b, vi (2 : Int32), vi l0, vi l1, vi l2, vi (0 : Int32), vi k0, vi k1, vi k2, vr b_540, vr b_547, vr b552, vi (1 : Int32)]) rfl ?_
        refine o_aload X577 hx (hb hby at_199) rfl rfl ?_
        refine o_aload X577 hx (hb hby at_201) rfl rfl ?_
        exact k_
      have F584 : Exa Z T577.heap b552 c_0 := (F571.keep Kc577)
      obtain ⟨cq583, kq583, q583a, q583b, q583c⟩ := isOf hZ rfl F584
      obtain ⟨_, _, ⟨T583, L583, k583, n583⟩, -, X583, ⟨Lc583, hQ583, l583, y583, z583⟩, st583⟩ := X577.virtualBack hx (y := y_4) (z := y_4) hown (mvT hZ (own_w hw 31 rfl)) (mvT hZ (own_w hw 32 rfl)) (notFace_of_selects (args := #[]) (mvT hZ (own_w hw 34 rfl))) (mvT hZ (own_w hw 34 rfl)) (mvT hZ (own_w hw 33 rfl)) (by decide) (backOf (W := 0) (rm6_2_0 l Z a0 hw [] b552 b_547 b_540 kb_540 kb_547 l0 l1 (T577.heap) n0 Z578 F4_577 F580 F581) hZ (own_w hw 35 rfl) (own_w hw 7 rfl) (by decide) (by decide)) q583a q583c (g := (mkF m 203 #[vi p1, vi p2, vi p3, vi b, vi (2 : Int32), vi l0, vi l1, vi l2, vi (0 : Int32), vi k0, vi k1, vi k2, vr b_540, vr b_547, vr b552, vi (1 : Int32)] [(.ref b_547), (.ref b552)])) rfl (by rw [hml]; rfl) (Steps.refl _) (argsL := [(.ref b_547)]) (rest := []) (lenOf pd0_2 rfl) rfl (by show 2 * 0 + _ ≤ _; exact Nat.le_of_eq rfl) (hb hby at_203) (fun _ _ => ⟨rfl, rfl, (by decide : 4 + 0 ≤ _), (by decide : 6 + 0 ≤ _)⟩)
      dsimp only [Pt.U, Pt.locs, Pt.cells, Pt.slots] at X583 l583 y583 z583 st583 hQ583
      subst l583 y583 z583
      obtain ⟨rfl, Nq583, eh583⟩ := hQ583
      have N583 := Fr.app N577 Nq583
      have go585 : Go p e below s₁ F0 T583 (mkF m 206 #[vi p1, vi p2, vi p3, vi b, vi (2 : Int32), vi l0, vi l1, vi l2, vi (0 : Int32), vi k0, vi k1, vi k2, vr b_540, vr b_547, vr b552, vi (1 : Int32)] [(.int (f6_2_0 l0 l1))]) := fun t_ k_ => go582 t_ (st583.trans k_)
      have go587 : Go p e below s₁ F0 T583 (mkF m 208 #[vi p1, vi p2, vi p3, vi b, vi (2 : Int32), vi l0, vi l1, vi l2, vi (0 : Int32), vi k0, vi k1, vi k2, vr b_540, vr b_547, vr b552, vi (1 : Int32)] [(.int (1 : Int32)), (.int (f6_2_0 l0 l1))]) := by
        intro t_ k_
        refine go585 t_ ?_
        refine o_iload X583 hx (hb hby at_206) rfl ?_
        exact k_
      have hd586 : (f6_2_0 l0 l1) = (1 : Int32) := own_yes_2_0 l0 l1 l2 k0 k1 k2 (own_s0 h_b h_l0 h_l1) 
      have go588 : Go p e below s₁ F0 T583 (mkF m 216 #[vi p1, vi p2, vi p3, vi b, vi (2 : Int32), vi l0, vi l1, vi l2, vi (0 : Int32), vi k0, vi k1, vi k2, vr b_540, vr b_547, vr b552, vi (1 : Int32)] [(.int (1 : Int32))]) := by
        intro t_ k_
        refine go587 t_ ?_
        refine o_icmpNo X583 hx (hb hby at_208) (teq hd586).2 ?_
        refine o_iconst X583 hx (hb hby at_211) (v := 1) rfl ?_
        refine o_goto X583 hx (hb hby at_212) (pc' := 216) rfl (by decide) ?_
        exact k_
      obtain ⟨fs, hr, hrun, hended, hW, hsame⟩ := X583.leave (v := some (.int (1 : Int32))) (fun h => by rw [Bd.returns] at h; cases h)
      refine ⟨_, _, pre0 _ (go588 _ ?_), hrun, hended, _, _, rfl, ?_, ⟨_, rfl⟩, hW, hsame.mono (by decide) (by decide)⟩
      · skip
        exact retN X583 hx (t := .boolean) Bd.returns (by simp) (hb hby at_216) hr
      · show Q0 Z p1 p2 p3 h0 n0 _ T583.heap _
        rw [eh583]
        exact ⟨rfl, N583⟩
    · skip
      have go589 : Go p e below s₁ F0 T540 (mkF m 95 #[vi p1, vi p2, vi p3, vi b, vi (2 : Int32), vi l0, vi l1, vi l2, vi (1 : Int32), vi k0, vi k1, vi k2, vr b_540, .unset, .unset, .unset] []) := by rw [hcs544] at go543; exact go543
      have go590 : Go p e below s₁ F0 T540 (mkF m 103 #[vi p1, vi p2, vi p3, vi b, vi (2 : Int32), vi l0, vi l1, vi l2, vi (1 : Int32), vi k0, vi k1, vi k2, vr b_540, .unset, .unset, .unset] [(.int k2), (.int k1), (.int k0), (.int (1 : Int32))]) := by
        intro t_ k_
        refine go589 t_ ?_
        refine o_iload X540 hx (hb hby at_95) rfl ?_
        refine o_iload X540 hx (hb hby at_97) rfl ?_
        refine o_iload X540 hx (hb hby at_99) rfl ?_
        refine o_iload X540 hx (hb hby at_101) rfl ?_
        exact k_
      obtain ⟨_, _, ⟨T591, L591, k591, n591⟩, -, X591, ⟨Lc591, hQ591, l591, y591, z591⟩, st591⟩ := Jvm.LawKit.callS X540 hx (y := y_1) hown (mvT hZ (own_w hw 0 rfl)) (mvT hZ (own_w hw 1 rfl)) (mvT hZ (own_w hw 2 rfl)) (mvT hZ (own_w hw 3 rfl)) (by decide) (backOf (W := 0) (rm1_1 l Z a0 hw [] k0 k1 k2 (T540.heap) n0 Z541 ) hZ (own_w hw 3 rfl) (own_w hw 2 rfl) (by decide) (by decide)) (g := (mkF m 103 #[vi p1, vi p2, vi p3, vi b, vi (2 : Int32), vi l0, vi l1, vi l2, vi (1 : Int32), vi k0, vi k1, vi k2, vr b_540, .unset, .unset, .unset] [(.int k2), (.int k1), (.int k0), (.int (1 : Int32))])) rfl (by rw [hml]; rfl) (argsL := [(.int (1 : Int32)), (.int k0), (.int k1), (.int k2)]) (rest := []) (lenOf pd0_0 rfl) rfl (by show 2 * 0 + _ ≤ _; exact Nat.le_of_eq rfl) (hb hby at_103) (fun _ _ => ⟨rfl, rfl, (by decide : 1 + 1 ≤ _), (by decide : 2 + 1 ≤ _)⟩)
      dsimp only [Pt.U, Pt.locs, Pt.cells, Pt.slots] at X591 l591 y591 z591 st591 hQ591
      subst l591 y591 z591
      obtain ⟨b_591, kb_591, rfl, Nq591, Kc591, hb_591, V_591⟩ := hQ591
      have N591 := Fr.app N540 Nq591
      have ne592 : b_540 ≠ b_591 := Nat.ne_of_lt (Nat.lt_of_lt_of_le V_540.lt hb_591)
      have g_b_591 : n0 ≤ b_591 := Nat.le_trans Z541 hb_591
      have Z593 : n0 ≤ T591.heap.size := Nat.le_trans Z541 Kc591.1
      have go594 : Go p e below s₁ F0 T591 (mkF m 106 #[vi p1, vi p2, vi p3, vi b, vi (2 : Int32), vi l0, vi l1, vi l2, vi (1 : Int32), vi k0, vi k1, vi k2, vr b_540, .unset, .unset, .unset] [(.ref b_591)]) := fun t_ k_ => go590 t_ (st591 t_ k_)
      have go595 : Go p e below s₁ F0 T591 (mkF m 108 #[vi p1, vi p2, vi p3, vi b, vi (2 : Int32), vi l0, vi l1, vi l2, vi (1 : Int32), vi k0, vi k1, vi k2, vr b_540, vr b_591, .unset, .unset] []) := by
        intro t_ k_
        refine go594 t_ ?_
        refine o_astore X591 hx (hb hby at_106) rfl (L' := #[vi p1, vi p2, vi p3, vi b, vi (2 : Int32), vi l0, vi l1, vi l2, vi (1 : Int32), vi k0, vi k1, vi k2, vr b_540, vr b_591, .unset, .unset]) rfl ?_
        exact k_
      obtain ⟨T596, h596, X596, e596, E596, A596, D596, -, st596⟩ := newO X591 hx hZ hown (own_w hw 5 rfl) (own_w hw 6 rfl) (own_w hw 7 rfl) rfl (g := (mkF m 108 #[vi p1, vi p2, vi p3, vi b, vi (2 : Int32), vi l0, vi l1, vi l2, vi (1 : Int32), vi k0, vi k1, vi k2, vr b_540, vr b_591, .unset, .unset] [])) rfl (hb hby at_108) (by decide) (by decide)
      obtain ⟨b596, gz596⟩ : ∃ z, z = T591.heap.size := ⟨_, rfl⟩
      rw [← gz596] at A596 D596 st596
      have F597 : Arv Z T591.heap b_540 kb_540 .int (2 : Int32) [(.int l0), (.int l1)] (.int (0 : Int32)) := (V_540.keep Kc591 nin0)
      have ne598 : b_540 ≠ b596 := Nat.ne_of_lt (Nat.lt_of_lt_of_le F597.lt (Nat.le_of_eq gz596.symm))
      have ne599 : b_591 ≠ b596 := Nat.ne_of_lt (Nat.lt_of_lt_of_le V_591.lt (Nat.le_of_eq gz596.symm))
      have g_b596 : n0 ≤ b596 := Nat.le_trans Z593 (Nat.le_of_eq gz596.symm)
      have Z600 : n0 ≤ h596.size := Nat.le_trans Z593 E596.1
      have F601 : Fld Z h596 b596 c_0 "id" "J" (.long (0 : Int64)) := D596 (Or.inr (own_w hw 21 rfl)) (ty := .long) (by decide)
      have F602 : Fld Z h596 b596 c_0 "power" "J" (.long (0 : Int64)) := D596 (Or.inr (own_w hw 23 rfl)) (ty := .long) (by decide)
      have F603 : Fld Z h596 b596 c_0 "units" "[I" .null := D596 (Or.inr (own_w hw 25 rfl)) (ty := (.array .int)) (by decide)
      have F604 : Fld Z h596 b596 c_0 "licences" "[I" .null := D596 (Or.inr (own_w hw 27 rfl)) (ty := (.array .int)) (by decide)
      have go605 : Go p e below s₁ F0 T596 (mkF m 111 #[vi p1, vi p2, vi p3, vi b, vi (2 : Int32), vi l0, vi l1, vi l2, vi (1 : Int32), vi k0, vi k1, vi k2, vr b_540, vr b_591, .unset, .unset] [(.ref b596)]) := fun t_ k_ => go595 t_ (st596 t_ k_)
      have go606 : Go p e below s₁ F0 T596 (mkF m 117 #[vi p1, vi p2, vi p3, vi b, vi (2 : Int32), vi l0, vi l1, vi l2, vi (1 : Int32), vi k0, vi k1, vi k2, vr b_540, vr b_591, .unset, .unset] [(.int (0 : Int32)), (.long (1000000 : Int64)), (.long (0 : Int64)), (.ref b596), (.ref b596)]) := by
        intro t_ k_
        refine go605 t_ ?_
        refine o_dup X596 hx (hb hby at_111) rfl ?_
        refine o_lconst X596 hx (hb hby at_112) (v := 0) rfl ?_
        refine o_ldc2 X596 hx hown (mvT hZ (own_w hw 8 rfl)) (hb hby at_113) ?_
        refine o_iconst X596 hx (hb hby at_116) (v := 0) rfl ?_
        exact k_
      obtain ⟨T607, h607, k607, X607, e607, E607, A607, st607⟩ := newP X596 hx hZ (own_w hw 4 rfl) e596 (g := (mkF m 117 #[vi p1, vi p2, vi p3, vi b, vi (2 : Int32), vi l0, vi l1, vi l2, vi (1 : Int32), vi k0, vi k1, vi k2, vr b_540, vr b_591, .unset, .unset] [(.int (0 : Int32)), (.long (1000000 : Int64)), (.long (0 : Int64)), (.ref b596), (.ref b596)])) rfl (hb hby at_117) rfl (by decide) (cap := 0) (by decide) (by decide) (by decide) (by decide)
      obtain ⟨b607, gz607⟩ : ∃ z, z = h596.size := ⟨_, rfl⟩
      rw [← gz607] at A607 st607
      have F608 : Arv Z h596 b_540 kb_540 .int (2 : Int32) [(.int l0), (.int l1)] (.int (0 : Int32)) := (F597.ext E596)
      have ne609 : b_540 ≠ b607 := Nat.ne_of_lt (Nat.lt_of_lt_of_le F608.lt (Nat.le_of_eq gz607.symm))
      have F610 : Arv Z h596 b_591 kb_591 .int (1 : Int32) [(.int k0)] (.int (0 : Int32)) := (V_591.ext E596)
      have ne611 : b_591 ≠ b607 := Nat.ne_of_lt (Nat.lt_of_lt_of_le F610.lt (Nat.le_of_eq gz607.symm))
      have ne612 : b596 ≠ b607 := Nat.ne_of_lt (Nat.lt_of_lt_of_le A596.lt (Nat.le_of_eq gz607.symm))
      have g_b607 : n0 ≤ b607 := Nat.le_trans Z600 (Nat.le_of_eq gz607.symm)
      have Z613 : n0 ≤ h607.size := Nat.le_trans Z600 E607.1
      have V607 : Arv Z h607 b607 k607 .int (0 : Int32) [] (.int (0 : Int32)) := (Arv.new A607 (by decide)).pad (pad_rep [] (.int (0 : Int32)) 0)
      have go614 : Go p e below s₁ F0 T607 (mkF m 119 #[vi p1, vi p2, vi p3, vi b, vi (2 : Int32), vi l0, vi l1, vi l2, vi (1 : Int32), vi k0, vi k1, vi k2, vr b_540, vr b_591, .unset, .unset] [(.ref b607), (.long (1000000 : Int64)), (.long (0 : Int64)), (.ref b596), (.ref b596)]) := fun t_ k_ => go606 t_ (st607 t_ k_)
      have F615 : Exa Z h607 b596 c_0 := (A596.ext E607)
      have F616 : Fld Z h607 b596 c_0 "id" "J" (.long (0 : Int64)) := (F601.ext E607)
      have F617 : Fld Z h607 b596 c_0 "power" "J" (.long (0 : Int64)) := (F602.ext E607)
      have F618 : Fld Z h607 b596 c_0 "units" "[I" .null := (F603.ext E607)
      have F619 : Fld Z h607 b596 c_0 "licences" "[I" .null := (F604.ext E607)
      have go620 : Go p e below s₁ F0 T607 (mkF m 121 #[vi p1, vi p2, vi p3, vi b, vi (2 : Int32), vi l0, vi l1, vi l2, vi (1 : Int32), vi k0, vi k1, vi k2, vr b_540, vr b_591, .unset, .unset] [(.ref b_540), (.ref b607), (.long (1000000 : Int64)), (.long (0 : Int64)), (.ref b596), (.ref b596)]) := by
        intro t_ k_
        refine go614 t_ ?_
        refine o_aload X607 hx (hb hby at_119) rfl rfl ?_
        exact k_
      obtain ⟨_, _, ⟨T621, L621, k621, n621⟩, -, X621, ⟨Lc621, hQ621, l621, y621, z621⟩, st621⟩ := X607.specialBack hx (y := y_2) rfl hown (mvT hZ (own_w hw 9 rfl)) (mvT hZ (own_w hw 10 rfl)) (mvT hZ (own_w hw 11 rfl)) (by decide) (backOf (W := 1) (rm2 l Z a0 hw [] b596 (0 : Int64) (1000000 : Int64) b607 b_540 h607 n0 Z613 F615 F616 F617 F618 F619 g_b596) hZ (own_w hw 11 rfl) (own_w hw 7 rfl) (by decide) (by decide)) (g := (mkF m 121 #[vi p1, vi p2, vi p3, vi b, vi (2 : Int32), vi l0, vi l1, vi l2, vi (1 : Int32), vi k0, vi k1, vi k2, vr b_540, vr b_591, .unset, .unset] [(.ref b_540), (.ref b607), (.long (1000000 : Int64)), (.long (0 : Int64)), (.ref b596), (.ref b596)])) rfl (by rw [hml]; rfl) (Steps.refl _) (a := b596) (argsL := [(.long (0 : Int64)), (.long (1000000 : Int64)), (.ref b607), (.ref b_540)]) (rest := [(.ref b596)]) (lenOf pd0_1 rfl) rfl (by show 2 * 0 + _ ≤ _; exact Nat.le_of_eq rfl) (hb hby at_121) (fun _ _ => ⟨rfl, e607, (by decide : 4 + 0 ≤ _), (by decide : 7 + 0 ≤ _)⟩)
      dsimp only [Pt.U, Pt.locs, Pt.cells, Pt.slots] at X621 l621 y621 z621 st621 hQ621
      subst l621 y621 z621
      obtain ⟨rfl, Nq621, Kc621, F4_621⟩ := hQ621
      have N621 := Fr.app N591 Nq621
      have Z622 : n0 ≤ T621.heap.size := Nat.le_trans Z613 Kc621.1
      have go623 : Go p e below s₁ F0 T621 (mkF m 124 #[vi p1, vi p2, vi p3, vi b, vi (2 : Int32), vi l0, vi l1, vi l2, vi (1 : Int32), vi k0, vi k1, vi k2, vr b_540, vr b_591, .unset, .unset] [(.ref b596)]) := fun t_ k_ => go620 t_ (st621.trans k_)
      have go624 : Go p e below s₁ F0 T621 (mkF m 142 #[vi p1, vi p2, vi p3, vi b, vi (2 : Int32), vi l0, vi l1, vi l2, vi (1 : Int32), vi k0, vi k1, vi k2, vr b_540, vr b_591, vr b596, .unset] [(.int k0), (.int l2), (.int l1), (.int l0), (.int (2 : Int32))]) := by
        intro t_ k_
        refine go623 t_ ?_
        refine o_astore X621 hx (hb hby at_124) rfl (L' := #[vi p1, vi p2, vi p3, vi b, vi (2 : Int32), vi l0, vi l1, vi l2, vi (1 : Int32), vi k0, vi k1, vi k2, vr b_540, vr b_591, vr b596, .unset]) rfl ?_
        refine o_iload X621 hx (hb hby at_126) rfl ?_
        refine o_iconst X621 hx (hb hby at_128) (v := 1) rfl ?_
        refine o_icmpNo X621 hx (hb hby at_129) (flt (by decide : ¬ ((1 : Int32) < (1 : Int32)))).1 ?_
        refine o_iload X621 hx (hb hby at_132) rfl ?_
        refine o_iload X621 hx (hb hby at_134) rfl ?_
        refine o_iload X621 hx (hb hby at_136) rfl ?_
        refine o_iload X621 hx (hb hby at_138) rfl ?_
        refine o_iload X621 hx (hb hby at_140) rfl ?_
        exact k_
      obtain ⟨_, _, ⟨T625, L625, k625, n625⟩, -, X625, ⟨Lc625, hQ625, l625, y625, z625⟩, st625⟩ := Jvm.LawKit.callS X621 hx (y := y_3) hown (mvT hZ (own_w hw 28 rfl)) (mvT hZ (own_w hw 29 rfl)) (mvT hZ (own_w hw 2 rfl)) (mvT hZ (own_w hw 30 rfl)) (by decide) (backOf (W := 0) (rm5_2 l Z a0 hw [] l0 l1 l2 k0 (T621.heap) n0 Z622 ) hZ (own_w hw 30 rfl) (own_w hw 2 rfl) (by decide) (by decide)) (g := (mkF m 142 #[vi p1, vi p2, vi p3, vi b, vi (2 : Int32), vi l0, vi l1, vi l2, vi (1 : Int32), vi k0, vi k1, vi k2, vr b_540, vr b_591, vr b596, .unset] [(.int k0), (.int l2), (.int l1), (.int l0), (.int (2 : Int32))])) rfl (by rw [hml]; rfl) (argsL := [(.int (2 : Int32)), (.int l0), (.int l1), (.int l2), (.int k0)]) (rest := []) (lenOf pd0_3 rfl) rfl (by show 2 * 0 + _ ≤ _; exact Nat.le_of_eq rfl) (hb hby at_142) (fun _ _ => ⟨rfl, rfl, (by decide : 4 + 0 ≤ _), (by decide : 7 + 0 ≤ _)⟩)
      dsimp only [Pt.U, Pt.locs, Pt.cells, Pt.slots] at X625 l625 y625 z625 st625 hQ625
      subst l625 y625 z625
      obtain ⟨rfl, Nq625, eh625⟩ := hQ625
      have N625 := Fr.app N621 Nq625
      have go626 : Go p e below s₁ F0 T625 (mkF m 145 #[vi p1, vi p2, vi p3, vi b, vi (2 : Int32), vi l0, vi l1, vi l2, vi (1 : Int32), vi k0, vi k1, vi k2, vr b_540, vr b_591, vr b596, .unset] [(.int (f5_2 l0 l1 l2 k0))]) := fun t_ k_ => go624 t_ (st625 t_ k_)
      by_cases hc145_627 : (f5_2 l0 l1 l2 k0) = (0 : Int32)
      · skip
        have F628 : Arv Z T621.heap b_540 kb_540 .int (2 : Int32) [(.int l0), (.int l1)] (.int (0 : Int32)) := ((F608.ext E607).keep Kc621 (ninS ne598 nin0))
        have F629 : Arv Z T621.heap b_591 kb_591 .int (1 : Int32) [(.int k0)] (.int (0 : Int32)) := ((F610.ext E607).keep Kc621 (ninS ne599 nin0))
        have go630 : Go p e below s₁ F0 T625 (mkF m 203 #[vi p1, vi p2, vi p3, vi b, vi (2 : Int32), vi l0, vi l1, vi l2, vi (1 : Int32), vi k0, vi k1, vi k2, vr b_540, vr b_591, vr b596, vi (0 : Int32)] [(.ref b_591), (.ref b596)]) := by
          intro t_ k_
          refine go626 t_ ?_
          refine o_ifYes X625 hx (hb hby at_145) (pc' := 196) rfl (by decide) ((if0 _ _).trans (teq hc145_627).1) ?_
          refine o_iconst X625 hx (hb hby at_196) (v := 0) rfl ?_
          refine o_istore X625 hx (hb hby at_197) (L' := #[vi p1, vi p2, vi p3, vi b, vi (2 : Int32), vi l0, vi l1, vi l2, vi (1 : Int32), vi k0, vi k1, vi k2, vr b_540, vr b_591, vr b596, vi (0 : Int32)]) rfl ?_
          refine o_aload X625 hx (hb hby at_199) rfl rfl ?_
          refine o_aload X625 hx (hb hby at_201) rfl rfl ?_
          exact k_
        have F632 : Exa Z T621.heap b596 c_0 := (F615.keep Kc621)
        obtain ⟨cq631, kq631, q631a, q631b, q631c⟩ := isOf hZ eh625 F632
        obtain ⟨_, _, ⟨T631, L631, k631, n631⟩, -, X631, ⟨Lc631, hQ631, l631, y631, z631⟩, st631⟩ := X625.virtualBack hx (y := y_4) (z := y_4) hown (mvT hZ (own_w hw 31 rfl)) (mvT hZ (own_w hw 32 rfl)) (notFace_of_selects (args := #[]) (mvT hZ (own_w hw 34 rfl))) (mvT hZ (own_w hw 34 rfl)) (mvT hZ (own_w hw 33 rfl)) (by decide) (backOf (W := 0) (rm6_2_1 l Z a0 hw [] b596 b_591 b_540 kb_540 kb_591 l0 l1 k0 (T621.heap) n0 Z622 F4_621 F628 F629) hZ (own_w hw 35 rfl) (own_w hw 7 rfl) (by decide) (by decide)) q631a q631c (g := (mkF m 203 #[vi p1, vi p2, vi p3, vi b, vi (2 : Int32), vi l0, vi l1, vi l2, vi (1 : Int32), vi k0, vi k1, vi k2, vr b_540, vr b_591, vr b596, vi (0 : Int32)] [(.ref b_591), (.ref b596)])) rfl (by rw [hml]; rfl) (Steps.refl _) (argsL := [(.ref b_591)]) (rest := []) (lenOf pd0_2 rfl) rfl (by show 2 * 0 + _ ≤ _; exact Nat.le_of_eq rfl) (hb hby at_203) (fun _ _ => ⟨rfl, eh625, (by decide : 4 + 0 ≤ _), (by decide : 7 + 0 ≤ _)⟩)
        dsimp only [Pt.U, Pt.locs, Pt.cells, Pt.slots] at X631 l631 y631 z631 st631 hQ631
        subst l631 y631 z631
        obtain ⟨rfl, Nq631, eh631⟩ := hQ631
        have N631 := Fr.app N625 Nq631
        have go633 : Go p e below s₁ F0 T631 (mkF m 206 #[vi p1, vi p2, vi p3, vi b, vi (2 : Int32), vi l0, vi l1, vi l2, vi (1 : Int32), vi k0, vi k1, vi k2, vr b_540, vr b_591, vr b596, vi (0 : Int32)] [(.int (f6_2_1 l0 l1 k0))]) := fun t_ k_ => go630 t_ (st631.trans k_)
        have go635 : Go p e below s₁ F0 T631 (mkF m 208 #[vi p1, vi p2, vi p3, vi b, vi (2 : Int32), vi l0, vi l1, vi l2, vi (1 : Int32), vi k0, vi k1, vi k2, vr b_540, vr b_591, vr b596, vi (0 : Int32)] [(.int (0 : Int32)), (.int (f6_2_1 l0 l1 k0))]) := by
          intro t_ k_
          refine go633 t_ ?_
          refine o_iload X631 hx (hb hby at_206) rfl ?_
          exact k_
        have hd634 : (f6_2_1 l0 l1 k0) = (0 : Int32) := own_no_2_1_0 l0 l1 l2 k0 k1 k2 (own_s0 h_b h_l0 h_l1) hc145_627
        have go636 : Go p e below s₁ F0 T631 (mkF m 216 #[vi p1, vi p2, vi p3, vi b, vi (2 : Int32), vi l0, vi l1, vi l2, vi (1 : Int32), vi k0, vi k1, vi k2, vr b_540, vr b_591, vr b596, vi (0 : Int32)] [(.int (1 : Int32))]) := by
          intro t_ k_
          refine go635 t_ ?_
          refine o_icmpNo X631 hx (hb hby at_208) (teq hd634).2 ?_
          refine o_iconst X631 hx (hb hby at_211) (v := 1) rfl ?_
          refine o_goto X631 hx (hb hby at_212) (pc' := 216) rfl (by decide) ?_
          exact k_
        obtain ⟨fs, hr, hrun, hended, hW, hsame⟩ := X631.leave (v := some (.int (1 : Int32))) (fun h => by rw [Bd.returns] at h; cases h)
        refine ⟨_, _, pre0 _ (go636 _ ?_), hrun, hended, _, _, rfl, ?_, ⟨_, rfl⟩, hW, hsame.mono (by decide) (by decide)⟩
        · skip
          exact retN X631 hx (t := .boolean) Bd.returns (by simp) (hb hby at_216) hr
        · show Q0 Z p1 p2 p3 h0 n0 _ T631.heap _
          rw [eh631]
          exact ⟨rfl, N631⟩
      · skip
        have F637 : Arv Z T621.heap b_540 kb_540 .int (2 : Int32) [(.int l0), (.int l1)] (.int (0 : Int32)) := ((F608.ext E607).keep Kc621 (ninS ne598 nin0))
        have F638 : Arv Z T621.heap b_591 kb_591 .int (1 : Int32) [(.int k0)] (.int (0 : Int32)) := ((F610.ext E607).keep Kc621 (ninS ne599 nin0))
        have go639 : Go p e below s₁ F0 T625 (mkF m 203 #[vi p1, vi p2, vi p3, vi b, vi (2 : Int32), vi l0, vi l1, vi l2, vi (1 : Int32), vi k0, vi k1, vi k2, vr b_540, vr b_591, vr b596, vi (1 : Int32)] [(.ref b_591), (.ref b596)]) := by
          intro t_ k_
          refine go626 t_ ?_
          refine o_ifNo X625 hx (hb hby at_145) ((if0 _ _).trans (feq hc145_627).1) ?_
          refine o_iload X625 hx (hb hby at_148) rfl ?_
          refine o_iconst X625 hx (hb hby at_150) (v := 2) rfl ?_
          refine o_icmpYes X625 hx (hb hby at_151) (pc' := 170) rfl (by decide) (tlt (by decide : (1 : Int32) < (2 : Int32))).1 ?_
          refine o_iload X625 hx (hb hby at_170) rfl ?_
          refine o_iconst X625 hx (hb hby at_172) (v := 3) rfl ?_
          refine o_icmpYes X625 hx (hb hby at_173) (pc' := 192) rfl (by decide) (tlt (by decide : (1 : Int32) < (3 : Int32))).1 ?_
          refine o_iconst X625 hx (hb hby at_192) (v := 1) rfl ?_
          refine o_goto X625 hx (hb hby at_193) (pc' := 197) rfl (by decide) ?_
          refine o_istore X625 hx (hb hby at_197) (L' := #[vi p1, vi p2, vi p3, vi b, vi (2 : Int32), vi l0, vi l1, vi l2, vi (1 : Int32), vi k0, vi k1, vi k2, vr b_540, vr b_591, vr b596, vi (1 : Int32)]) rfl ?_
          refine o_aload X625 hx (hb hby at_199) rfl rfl ?_
          refine o_aload X625 hx (hb hby at_201) rfl rfl ?_
          exact k_
        have F641 : Exa Z T621.heap b596 c_0 := (F615.keep Kc621)
        obtain ⟨cq640, kq640, q640a, q640b, q640c⟩ := isOf hZ eh625 F641
        obtain ⟨_, _, ⟨T640, L640, k640, n640⟩, -, X640, ⟨Lc640, hQ640, l640, y640, z640⟩, st640⟩ := X625.virtualBack hx (y := y_4) (z := y_4) hown (mvT hZ (own_w hw 31 rfl)) (mvT hZ (own_w hw 32 rfl)) (notFace_of_selects (args := #[]) (mvT hZ (own_w hw 34 rfl))) (mvT hZ (own_w hw 34 rfl)) (mvT hZ (own_w hw 33 rfl)) (by decide) (backOf (W := 0) (rm6_2_1 l Z a0 hw [] b596 b_591 b_540 kb_540 kb_591 l0 l1 k0 (T621.heap) n0 Z622 F4_621 F637 F638) hZ (own_w hw 35 rfl) (own_w hw 7 rfl) (by decide) (by decide)) q640a q640c (g := (mkF m 203 #[vi p1, vi p2, vi p3, vi b, vi (2 : Int32), vi l0, vi l1, vi l2, vi (1 : Int32), vi k0, vi k1, vi k2, vr b_540, vr b_591, vr b596, vi (1 : Int32)] [(.ref b_591), (.ref b596)])) rfl (by rw [hml]; rfl) (Steps.refl _) (argsL := [(.ref b_591)]) (rest := []) (lenOf pd0_2 rfl) rfl (by show 2 * 0 + _ ≤ _; exact Nat.le_of_eq rfl) (hb hby at_203) (fun _ _ => ⟨rfl, eh625, (by decide : 4 + 0 ≤ _), (by decide : 7 + 0 ≤ _)⟩)
        dsimp only [Pt.U, Pt.locs, Pt.cells, Pt.slots] at X640 l640 y640 z640 st640 hQ640
        subst l640 y640 z640
        obtain ⟨rfl, Nq640, eh640⟩ := hQ640
        have N640 := Fr.app N625 Nq640
        have go642 : Go p e below s₁ F0 T640 (mkF m 206 #[vi p1, vi p2, vi p3, vi b, vi (2 : Int32), vi l0, vi l1, vi l2, vi (1 : Int32), vi k0, vi k1, vi k2, vr b_540, vr b_591, vr b596, vi (1 : Int32)] [(.int (f6_2_1 l0 l1 k0))]) := fun t_ k_ => go639 t_ (st640.trans k_)
        have go644 : Go p e below s₁ F0 T640 (mkF m 208 #[vi p1, vi p2, vi p3, vi b, vi (2 : Int32), vi l0, vi l1, vi l2, vi (1 : Int32), vi k0, vi k1, vi k2, vr b_540, vr b_591, vr b596, vi (1 : Int32)] [(.int (1 : Int32)), (.int (f6_2_1 l0 l1 k0))]) := by
          intro t_ k_
          refine go642 t_ ?_
          refine o_iload X640 hx (hb hby at_206) rfl ?_
          exact k_
        have hd643 : (f6_2_1 l0 l1 k0) = (1 : Int32) := own_yes_2_1 l0 l1 l2 k0 k1 k2 (own_s0 h_b h_l0 h_l1) hc145_627
        have go645 : Go p e below s₁ F0 T640 (mkF m 216 #[vi p1, vi p2, vi p3, vi b, vi (2 : Int32), vi l0, vi l1, vi l2, vi (1 : Int32), vi k0, vi k1, vi k2, vr b_540, vr b_591, vr b596, vi (1 : Int32)] [(.int (1 : Int32))]) := by
          intro t_ k_
          refine go644 t_ ?_
          refine o_icmpNo X640 hx (hb hby at_208) (teq hd643).2 ?_
          refine o_iconst X640 hx (hb hby at_211) (v := 1) rfl ?_
          refine o_goto X640 hx (hb hby at_212) (pc' := 216) rfl (by decide) ?_
          exact k_
        obtain ⟨fs, hr, hrun, hended, hW, hsame⟩ := X640.leave (v := some (.int (1 : Int32))) (fun h => by rw [Bd.returns] at h; cases h)
        refine ⟨_, _, pre0 _ (go645 _ ?_), hrun, hended, _, _, rfl, ?_, ⟨_, rfl⟩, hW, hsame.mono (by decide) (by decide)⟩
        · skip
          exact retN X640 hx (t := .boolean) Bd.returns (by simp) (hb hby at_216) hr
        · show Q0 Z p1 p2 p3 h0 n0 _ T640.heap _
          rw [eh640]
          exact ⟨rfl, N640⟩
    · skip
      have go646 : Go p e below s₁ F0 T540 (mkF m 95 #[vi p1, vi p2, vi p3, vi b, vi (2 : Int32), vi l0, vi l1, vi l2, vi (2 : Int32), vi k0, vi k1, vi k2, vr b_540, .unset, .unset, .unset] []) := by rw [hcs544] at go543; exact go543
      have go647 : Go p e below s₁ F0 T540 (mkF m 103 #[vi p1, vi p2, vi p3, vi b, vi (2 : Int32), vi l0, vi l1, vi l2, vi (2 : Int32), vi k0, vi k1, vi k2, vr b_540, .unset, .unset, .unset] [(.int k2), (.int k1), (.int k0), (.int (2 : Int32))]) := by
        intro t_ k_
        refine go646 t_ ?_
        refine o_iload X540 hx (hb hby at_95) rfl ?_
        refine o_iload X540 hx (hb hby at_97) rfl ?_
        refine o_iload X540 hx (hb hby at_99) rfl ?_
        refine o_iload X540 hx (hb hby at_101) rfl ?_
        exact k_
      obtain ⟨_, _, ⟨T648, L648, k648, n648⟩, -, X648, ⟨Lc648, hQ648, l648, y648, z648⟩, st648⟩ := Jvm.LawKit.callS X540 hx (y := y_1) hown (mvT hZ (own_w hw 0 rfl)) (mvT hZ (own_w hw 1 rfl)) (mvT hZ (own_w hw 2 rfl)) (mvT hZ (own_w hw 3 rfl)) (by decide) (backOf (W := 0) (rm1_2 l Z a0 hw [] k0 k1 k2 (T540.heap) n0 Z541 ) hZ (own_w hw 3 rfl) (own_w hw 2 rfl) (by decide) (by decide)) (g := (mkF m 103 #[vi p1, vi p2, vi p3, vi b, vi (2 : Int32), vi l0, vi l1, vi l2, vi (2 : Int32), vi k0, vi k1, vi k2, vr b_540, .unset, .unset, .unset] [(.int k2), (.int k1), (.int k0), (.int (2 : Int32))])) rfl (by rw [hml]; rfl) (argsL := [(.int (2 : Int32)), (.int k0), (.int k1), (.int k2)]) (rest := []) (lenOf pd0_0 rfl) rfl (by show 2 * 0 + _ ≤ _; exact Nat.le_of_eq rfl) (hb hby at_103) (fun _ _ => ⟨rfl, rfl, (by decide : 1 + 1 ≤ _), (by decide : 2 + 2 ≤ _)⟩)
      dsimp only [Pt.U, Pt.locs, Pt.cells, Pt.slots] at X648 l648 y648 z648 st648 hQ648
      subst l648 y648 z648
      obtain ⟨b_648, kb_648, rfl, Nq648, Kc648, hb_648, V_648⟩ := hQ648
      have N648 := Fr.app N540 Nq648
      have ne649 : b_540 ≠ b_648 := Nat.ne_of_lt (Nat.lt_of_lt_of_le V_540.lt hb_648)
      have g_b_648 : n0 ≤ b_648 := Nat.le_trans Z541 hb_648
      have Z650 : n0 ≤ T648.heap.size := Nat.le_trans Z541 Kc648.1
      have go651 : Go p e below s₁ F0 T648 (mkF m 106 #[vi p1, vi p2, vi p3, vi b, vi (2 : Int32), vi l0, vi l1, vi l2, vi (2 : Int32), vi k0, vi k1, vi k2, vr b_540, .unset, .unset, .unset] [(.ref b_648)]) := fun t_ k_ => go647 t_ (st648 t_ k_)
      have go652 : Go p e below s₁ F0 T648 (mkF m 108 #[vi p1, vi p2, vi p3, vi b, vi (2 : Int32), vi l0, vi l1, vi l2, vi (2 : Int32), vi k0, vi k1, vi k2, vr b_540, vr b_648, .unset, .unset] []) := by
        intro t_ k_
        refine go651 t_ ?_
        refine o_astore X648 hx (hb hby at_106) rfl (L' := #[vi p1, vi p2, vi p3, vi b, vi (2 : Int32), vi l0, vi l1, vi l2, vi (2 : Int32), vi k0, vi k1, vi k2, vr b_540, vr b_648, .unset, .unset]) rfl ?_
        exact k_
      obtain ⟨T653, h653, X653, e653, E653, A653, D653, -, st653⟩ := newO X648 hx hZ hown (own_w hw 5 rfl) (own_w hw 6 rfl) (own_w hw 7 rfl) rfl (g := (mkF m 108 #[vi p1, vi p2, vi p3, vi b, vi (2 : Int32), vi l0, vi l1, vi l2, vi (2 : Int32), vi k0, vi k1, vi k2, vr b_540, vr b_648, .unset, .unset] [])) rfl (hb hby at_108) (by decide) (by decide)
      obtain ⟨b653, gz653⟩ : ∃ z, z = T648.heap.size := ⟨_, rfl⟩
      rw [← gz653] at A653 D653 st653
      have F654 : Arv Z T648.heap b_540 kb_540 .int (2 : Int32) [(.int l0), (.int l1)] (.int (0 : Int32)) := (V_540.keep Kc648 nin0)
      have ne655 : b_540 ≠ b653 := Nat.ne_of_lt (Nat.lt_of_lt_of_le F654.lt (Nat.le_of_eq gz653.symm))
      have ne656 : b_648 ≠ b653 := Nat.ne_of_lt (Nat.lt_of_lt_of_le V_648.lt (Nat.le_of_eq gz653.symm))
      have g_b653 : n0 ≤ b653 := Nat.le_trans Z650 (Nat.le_of_eq gz653.symm)
      have Z657 : n0 ≤ h653.size := Nat.le_trans Z650 E653.1
      have F658 : Fld Z h653 b653 c_0 "id" "J" (.long (0 : Int64)) := D653 (Or.inr (own_w hw 21 rfl)) (ty := .long) (by decide)
      have F659 : Fld Z h653 b653 c_0 "power" "J" (.long (0 : Int64)) := D653 (Or.inr (own_w hw 23 rfl)) (ty := .long) (by decide)
      have F660 : Fld Z h653 b653 c_0 "units" "[I" .null := D653 (Or.inr (own_w hw 25 rfl)) (ty := (.array .int)) (by decide)
      have F661 : Fld Z h653 b653 c_0 "licences" "[I" .null := D653 (Or.inr (own_w hw 27 rfl)) (ty := (.array .int)) (by decide)
      have go662 : Go p e below s₁ F0 T653 (mkF m 111 #[vi p1, vi p2, vi p3, vi b, vi (2 : Int32), vi l0, vi l1, vi l2, vi (2 : Int32), vi k0, vi k1, vi k2, vr b_540, vr b_648, .unset, .unset] [(.ref b653)]) := fun t_ k_ => go652 t_ (st653 t_ k_)
      have go663 : Go p e below s₁ F0 T653 (mkF m 117 #[vi p1, vi p2, vi p3, vi b, vi (2 : Int32), vi l0, vi l1, vi l2, vi (2 : Int32), vi k0, vi k1, vi k2, vr b_540, vr b_648, .unset, .unset] [(.int (0 : Int32)), (.long (1000000 : Int64)), (.long (0 : Int64)), (.ref b653), (.ref b653)]) := by
        intro t_ k_
        refine go662 t_ ?_
        refine o_dup X653 hx (hb hby at_111) rfl ?_
        refine o_lconst X653 hx (hb hby at_112) (v := 0) rfl ?_
        refine o_ldc2 X653 hx hown (mvT hZ (own_w hw 8 rfl)) (hb hby at_113) ?_
        refine o_iconst X653 hx (hb hby at_116) (v := 0) rfl ?_
        exact k_
      obtain ⟨T664, h664, k664, X664, e664, E664, A664, st664⟩ := newP X653 hx hZ (own_w hw 4 rfl) e653 (g := (mkF m 117 #[vi p1, vi p2, vi p3, vi b, vi (2 : Int32), vi l0, vi l1, vi l2, vi (2 : Int32), vi k0, vi k1, vi k2, vr b_540, vr b_648, .unset, .unset] [(.int (0 : Int32)), (.long (1000000 : Int64)), (.long (0 : Int64)), (.ref b653), (.ref b653)])) rfl (hb hby at_117) rfl (by decide) (cap := 0) (by decide) (by decide) (by decide) (by decide)
      obtain ⟨b664, gz664⟩ : ∃ z, z = h653.size := ⟨_, rfl⟩
      rw [← gz664] at A664 st664
      have F665 : Arv Z h653 b_540 kb_540 .int (2 : Int32) [(.int l0), (.int l1)] (.int (0 : Int32)) := (F654.ext E653)
      have ne666 : b_540 ≠ b664 := Nat.ne_of_lt (Nat.lt_of_lt_of_le F665.lt (Nat.le_of_eq gz664.symm))
      have F667 : Arv Z h653 b_648 kb_648 .int (2 : Int32) [(.int k0), (.int k1)] (.int (0 : Int32)) := (V_648.ext E653)
      have ne668 : b_648 ≠ b664 := Nat.ne_of_lt (Nat.lt_of_lt_of_le F667.lt (Nat.le_of_eq gz664.symm))
      have ne669 : b653 ≠ b664 := Nat.ne_of_lt (Nat.lt_of_lt_of_le A653.lt (Nat.le_of_eq gz664.symm))
      have g_b664 : n0 ≤ b664 := Nat.le_trans Z657 (Nat.le_of_eq gz664.symm)
      have Z670 : n0 ≤ h664.size := Nat.le_trans Z657 E664.1
      have V664 : Arv Z h664 b664 k664 .int (0 : Int32) [] (.int (0 : Int32)) := (Arv.new A664 (by decide)).pad (pad_rep [] (.int (0 : Int32)) 0)
      have go671 : Go p e below s₁ F0 T664 (mkF m 119 #[vi p1, vi p2, vi p3, vi b, vi (2 : Int32), vi l0, vi l1, vi l2, vi (2 : Int32), vi k0, vi k1, vi k2, vr b_540, vr b_648, .unset, .unset] [(.ref b664), (.long (1000000 : Int64)), (.long (0 : Int64)), (.ref b653), (.ref b653)]) := fun t_ k_ => go663 t_ (st664 t_ k_)
      have F672 : Exa Z h664 b653 c_0 := (A653.ext E664)
      have F673 : Fld Z h664 b653 c_0 "id" "J" (.long (0 : Int64)) := (F658.ext E664)
      have F674 : Fld Z h664 b653 c_0 "power" "J" (.long (0 : Int64)) := (F659.ext E664)
      have F675 : Fld Z h664 b653 c_0 "units" "[I" .null := (F660.ext E664)
      have F676 : Fld Z h664 b653 c_0 "licences" "[I" .null := (F661.ext E664)
      have go677 : Go p e below s₁ F0 T664 (mkF m 121 #[vi p1, vi p2, vi p3, vi b, vi (2 : Int32), vi l0, vi l1, vi l2, vi (2 : Int32), vi k0, vi k1, vi k2, vr b_540, vr b_648, .unset, .unset] [(.ref b_540), (.ref b664), (.long (1000000 : Int64)), (.long (0 : Int64)), (.ref b653), (.ref b653)]) := by
        intro t_ k_
        refine go671 t_ ?_
        refine o_aload X664 hx (hb hby at_119) rfl rfl ?_
        exact k_
      obtain ⟨_, _, ⟨T678, L678, k678, n678⟩, -, X678, ⟨Lc678, hQ678, l678, y678, z678⟩, st678⟩ := X664.specialBack hx (y := y_2) rfl hown (mvT hZ (own_w hw 9 rfl)) (mvT hZ (own_w hw 10 rfl)) (mvT hZ (own_w hw 11 rfl)) (by decide) (backOf (W := 1) (rm2 l Z a0 hw [] b653 (0 : Int64) (1000000 : Int64) b664 b_540 h664 n0 Z670 F672 F673 F674 F675 F676 g_b653) hZ (own_w hw 11 rfl) (own_w hw 7 rfl) (by decide) (by decide)) (g := (mkF m 121 #[vi p1, vi p2, vi p3, vi b, vi (2 : Int32), vi l0, vi l1, vi l2, vi (2 : Int32), vi k0, vi k1, vi k2, vr b_540, vr b_648, .unset, .unset] [(.ref b_540), (.ref b664), (.long (1000000 : Int64)), (.long (0 : Int64)), (.ref b653), (.ref b653)])) rfl (by rw [hml]; rfl) (Steps.refl _) (a := b653) (argsL := [(.long (0 : Int64)), (.long (1000000 : Int64)), (.ref b664), (.ref b_540)]) (rest := [(.ref b653)]) (lenOf pd0_1 rfl) rfl (by show 2 * 0 + _ ≤ _; exact Nat.le_of_eq rfl) (hb hby at_121) (fun _ _ => ⟨rfl, e664, (by decide : 4 + 0 ≤ _), (by decide : 8 + 0 ≤ _)⟩)
      dsimp only [Pt.U, Pt.locs, Pt.cells, Pt.slots] at X678 l678 y678 z678 st678 hQ678
      subst l678 y678 z678
      obtain ⟨rfl, Nq678, Kc678, F4_678⟩ := hQ678
      have N678 := Fr.app N648 Nq678
      have Z679 : n0 ≤ T678.heap.size := Nat.le_trans Z670 Kc678.1
      have go680 : Go p e below s₁ F0 T678 (mkF m 124 #[vi p1, vi p2, vi p3, vi b, vi (2 : Int32), vi l0, vi l1, vi l2, vi (2 : Int32), vi k0, vi k1, vi k2, vr b_540, vr b_648, .unset, .unset] [(.ref b653)]) := fun t_ k_ => go677 t_ (st678.trans k_)
      have go681 : Go p e below s₁ F0 T678 (mkF m 142 #[vi p1, vi p2, vi p3, vi b, vi (2 : Int32), vi l0, vi l1, vi l2, vi (2 : Int32), vi k0, vi k1, vi k2, vr b_540, vr b_648, vr b653, .unset] [(.int k0), (.int l2), (.int l1), (.int l0), (.int (2 : Int32))]) := by
        intro t_ k_
        refine go680 t_ ?_
        refine o_astore X678 hx (hb hby at_124) rfl (L' := #[vi p1, vi p2, vi p3, vi b, vi (2 : Int32), vi l0, vi l1, vi l2, vi (2 : Int32), vi k0, vi k1, vi k2, vr b_540, vr b_648, vr b653, .unset]) rfl ?_
        refine o_iload X678 hx (hb hby at_126) rfl ?_
        refine o_iconst X678 hx (hb hby at_128) (v := 1) rfl ?_
        refine o_icmpNo X678 hx (hb hby at_129) (flt (by decide : ¬ ((2 : Int32) < (1 : Int32)))).1 ?_
        refine o_iload X678 hx (hb hby at_132) rfl ?_
        refine o_iload X678 hx (hb hby at_134) rfl ?_
        refine o_iload X678 hx (hb hby at_136) rfl ?_
        refine o_iload X678 hx (hb hby at_138) rfl ?_
        refine o_iload X678 hx (hb hby at_140) rfl ?_
        exact k_
      obtain ⟨_, _, ⟨T682, L682, k682, n682⟩, -, X682, ⟨Lc682, hQ682, l682, y682, z682⟩, st682⟩ := Jvm.LawKit.callS X678 hx (y := y_3) hown (mvT hZ (own_w hw 28 rfl)) (mvT hZ (own_w hw 29 rfl)) (mvT hZ (own_w hw 2 rfl)) (mvT hZ (own_w hw 30 rfl)) (by decide) (backOf (W := 0) (rm5_2 l Z a0 hw [] l0 l1 l2 k0 (T678.heap) n0 Z679 ) hZ (own_w hw 30 rfl) (own_w hw 2 rfl) (by decide) (by decide)) (g := (mkF m 142 #[vi p1, vi p2, vi p3, vi b, vi (2 : Int32), vi l0, vi l1, vi l2, vi (2 : Int32), vi k0, vi k1, vi k2, vr b_540, vr b_648, vr b653, .unset] [(.int k0), (.int l2), (.int l1), (.int l0), (.int (2 : Int32))])) rfl (by rw [hml]; rfl) (argsL := [(.int (2 : Int32)), (.int l0), (.int l1), (.int l2), (.int k0)]) (rest := []) (lenOf pd0_3 rfl) rfl (by show 2 * 0 + _ ≤ _; exact Nat.le_of_eq rfl) (hb hby at_142) (fun _ _ => ⟨rfl, rfl, (by decide : 4 + 0 ≤ _), (by decide : 8 + 0 ≤ _)⟩)
      dsimp only [Pt.U, Pt.locs, Pt.cells, Pt.slots] at X682 l682 y682 z682 st682 hQ682
      subst l682 y682 z682
      obtain ⟨rfl, Nq682, eh682⟩ := hQ682
      have N682 := Fr.app N678 Nq682
      have go683 : Go p e below s₁ F0 T682 (mkF m 145 #[vi p1, vi p2, vi p3, vi b, vi (2 : Int32), vi l0, vi l1, vi l2, vi (2 : Int32), vi k0, vi k1, vi k2, vr b_540, vr b_648, vr b653, .unset] [(.int (f5_2 l0 l1 l2 k0))]) := fun t_ k_ => go681 t_ (st682 t_ k_)
      by_cases hc145_684 : (f5_2 l0 l1 l2 k0) = (0 : Int32)
      · skip
        have F685 : Arv Z T678.heap b_540 kb_540 .int (2 : Int32) [(.int l0), (.int l1)] (.int (0 : Int32)) := ((F665.ext E664).keep Kc678 (ninS ne655 nin0))
        have F686 : Arv Z T678.heap b_648 kb_648 .int (2 : Int32) [(.int k0), (.int k1)] (.int (0 : Int32)) := ((F667.ext E664).keep Kc678 (ninS ne656 nin0))
        have go687 : Go p e below s₁ F0 T682 (mkF m 203 #[vi p1, vi p2, vi p3, vi b, vi (2 : Int32), vi l0, vi l1, vi l2, vi (2 : Int32), vi k0, vi k1, vi k2, vr b_540, vr b_648, vr b653, vi (0 : Int32)] [(.ref b_648), (.ref b653)]) := by
          intro t_ k_
          refine go683 t_ ?_
          refine o_ifYes X682 hx (hb hby at_145) (pc' := 196) rfl (by decide) ((if0 _ _).trans (teq hc145_684).1) ?_
          refine o_iconst X682 hx (hb hby at_196) (v := 0) rfl ?_
          refine o_istore X682 hx (hb hby at_197) (L' := #[vi p1, vi p2, vi p3, vi b, vi (2 : Int32), vi l0, vi l1, vi l2, vi (2 : Int32), vi k0, vi k1, vi k2, vr b_540, vr b_648, vr b653, vi (0 : Int32)]) rfl ?_
          refine o_aload X682 hx (hb hby at_199) rfl rfl ?_
          refine o_aload X682 hx (hb hby at_201) rfl rfl ?_
          exact k_
        have F689 : Exa Z T678.heap b653 c_0 := (F672.keep Kc678)
        obtain ⟨cq688, kq688, q688a, q688b, q688c⟩ := isOf hZ eh682 F689
        obtain ⟨_, _, ⟨T688, L688, k688, n688⟩, -, X688, ⟨Lc688, hQ688, l688, y688, z688⟩, st688⟩ := X682.virtualBack hx (y := y_4) (z := y_4) hown (mvT hZ (own_w hw 31 rfl)) (mvT hZ (own_w hw 32 rfl)) (notFace_of_selects (args := #[]) (mvT hZ (own_w hw 34 rfl))) (mvT hZ (own_w hw 34 rfl)) (mvT hZ (own_w hw 33 rfl)) (by decide) (backOf (W := 0) (rm6_2_2 l Z a0 hw [] b653 b_648 b_540 kb_540 kb_648 l0 l1 k0 k1 (T678.heap) n0 Z679 F4_678 F685 F686 (own_s0 h_b h_k0 h_k1)) hZ (own_w hw 35 rfl) (own_w hw 7 rfl) (by decide) (by decide)) q688a q688c (g := (mkF m 203 #[vi p1, vi p2, vi p3, vi b, vi (2 : Int32), vi l0, vi l1, vi l2, vi (2 : Int32), vi k0, vi k1, vi k2, vr b_540, vr b_648, vr b653, vi (0 : Int32)] [(.ref b_648), (.ref b653)])) rfl (by rw [hml]; rfl) (Steps.refl _) (argsL := [(.ref b_648)]) (rest := []) (lenOf pd0_2 rfl) rfl (by show 2 * 0 + _ ≤ _; exact Nat.le_of_eq rfl) (hb hby at_203) (fun _ _ => ⟨rfl, eh682, (by decide : 4 + 0 ≤ _), (by decide : 8 + 0 ≤ _)⟩)
        dsimp only [Pt.U, Pt.locs, Pt.cells, Pt.slots] at X688 l688 y688 z688 st688 hQ688
        subst l688 y688 z688
        obtain ⟨rfl, Nq688, eh688⟩ := hQ688
        have N688 := Fr.app N682 Nq688
        have go690 : Go p e below s₁ F0 T688 (mkF m 206 #[vi p1, vi p2, vi p3, vi b, vi (2 : Int32), vi l0, vi l1, vi l2, vi (2 : Int32), vi k0, vi k1, vi k2, vr b_540, vr b_648, vr b653, vi (0 : Int32)] [(.int (f6_2_2 l0 l1 k0 k1))]) := fun t_ k_ => go687 t_ (st688.trans k_)
        have go692 : Go p e below s₁ F0 T688 (mkF m 208 #[vi p1, vi p2, vi p3, vi b, vi (2 : Int32), vi l0, vi l1, vi l2, vi (2 : Int32), vi k0, vi k1, vi k2, vr b_540, vr b_648, vr b653, vi (0 : Int32)] [(.int (0 : Int32)), (.int (f6_2_2 l0 l1 k0 k1))]) := by
          intro t_ k_
          refine go690 t_ ?_
          refine o_iload X688 hx (hb hby at_206) rfl ?_
          exact k_
        have hd691 : (f6_2_2 l0 l1 k0 k1) = (0 : Int32) := own_no_2_2_0 l0 l1 l2 k0 k1 k2 (own_s0 h_b h_l0 h_l1) (own_s0 h_b h_k0 h_k1) hc145_684
        have go693 : Go p e below s₁ F0 T688 (mkF m 216 #[vi p1, vi p2, vi p3, vi b, vi (2 : Int32), vi l0, vi l1, vi l2, vi (2 : Int32), vi k0, vi k1, vi k2, vr b_540, vr b_648, vr b653, vi (0 : Int32)] [(.int (1 : Int32))]) := by
          intro t_ k_
          refine go692 t_ ?_
          refine o_icmpNo X688 hx (hb hby at_208) (teq hd691).2 ?_
          refine o_iconst X688 hx (hb hby at_211) (v := 1) rfl ?_
          refine o_goto X688 hx (hb hby at_212) (pc' := 216) rfl (by decide) ?_
          exact k_
        obtain ⟨fs, hr, hrun, hended, hW, hsame⟩ := X688.leave (v := some (.int (1 : Int32))) (fun h => by rw [Bd.returns] at h; cases h)
        refine ⟨_, _, pre0 _ (go693 _ ?_), hrun, hended, _, _, rfl, ?_, ⟨_, rfl⟩, hW, hsame.mono (by decide) (by decide)⟩
        · skip
          exact retN X688 hx (t := .boolean) Bd.returns (by simp) (hb hby at_216) hr
        · show Q0 Z p1 p2 p3 h0 n0 _ T688.heap _
          rw [eh688]
          exact ⟨rfl, N688⟩
      · skip
        have go694 : Go p e below s₁ F0 T682 (mkF m 164 #[vi p1, vi p2, vi p3, vi b, vi (2 : Int32), vi l0, vi l1, vi l2, vi (2 : Int32), vi k0, vi k1, vi k2, vr b_540, vr b_648, vr b653, .unset] [(.int k1), (.int l2), (.int l1), (.int l0), (.int (2 : Int32))]) := by
          intro t_ k_
          refine go683 t_ ?_
          refine o_ifNo X682 hx (hb hby at_145) ((if0 _ _).trans (feq hc145_684).1) ?_
          refine o_iload X682 hx (hb hby at_148) rfl ?_
          refine o_iconst X682 hx (hb hby at_150) (v := 2) rfl ?_
          refine o_icmpNo X682 hx (hb hby at_151) (flt (by decide : ¬ ((2 : Int32) < (2 : Int32)))).1 ?_
          refine o_iload X682 hx (hb hby at_154) rfl ?_
          refine o_iload X682 hx (hb hby at_156) rfl ?_
          refine o_iload X682 hx (hb hby at_158) rfl ?_
          refine o_iload X682 hx (hb hby at_160) rfl ?_
          refine o_iload X682 hx (hb hby at_162) rfl ?_
          exact k_
        obtain ⟨_, _, ⟨T695, L695, k695, n695⟩, -, X695, ⟨Lc695, hQ695, l695, y695, z695⟩, st695⟩ := Jvm.LawKit.callS X682 hx (y := y_3) hown (mvT hZ (own_w hw 28 rfl)) (mvT hZ (own_w hw 29 rfl)) (mvT hZ (own_w hw 2 rfl)) (mvT hZ (own_w hw 30 rfl)) (by decide) (backOf (W := 0) (rm5_2 l Z a0 hw [] l0 l1 l2 k1 (T678.heap) n0 Z679 ) hZ (own_w hw 30 rfl) (own_w hw 2 rfl) (by decide) (by decide)) (g := (mkF m 164 #[vi p1, vi p2, vi p3, vi b, vi (2 : Int32), vi l0, vi l1, vi l2, vi (2 : Int32), vi k0, vi k1, vi k2, vr b_540, vr b_648, vr b653, .unset] [(.int k1), (.int l2), (.int l1), (.int l0), (.int (2 : Int32))])) rfl (by rw [hml]; rfl) (argsL := [(.int (2 : Int32)), (.int l0), (.int l1), (.int l2), (.int k1)]) (rest := []) (lenOf pd0_3 rfl) rfl (by show 2 * 0 + _ ≤ _; exact Nat.le_of_eq rfl) (hb hby at_164) (fun _ _ => ⟨rfl, eh682, (by decide : 4 + 0 ≤ _), (by decide : 8 + 0 ≤ _)⟩)
        dsimp only [Pt.U, Pt.locs, Pt.cells, Pt.slots] at X695 l695 y695 z695 st695 hQ695
        subst l695 y695 z695
        obtain ⟨rfl, Nq695, eh695⟩ := hQ695
        have N695 := Fr.app N682 Nq695
        have go696 : Go p e below s₁ F0 T695 (mkF m 167 #[vi p1, vi p2, vi p3, vi b, vi (2 : Int32), vi l0, vi l1, vi l2, vi (2 : Int32), vi k0, vi k1, vi k2, vr b_540, vr b_648, vr b653, .unset] [(.int (f5_2 l0 l1 l2 k1))]) := fun t_ k_ => go694 t_ (st695 t_ k_)
        by_cases hc167_697 : (f5_2 l0 l1 l2 k1) = (0 : Int32)
        · skip
          have F698 : Arv Z T678.heap b_540 kb_540 .int (2 : Int32) [(.int l0), (.int l1)] (.int (0 : Int32)) := ((F665.ext E664).keep Kc678 (ninS ne655 nin0))
          have F699 : Arv Z T678.heap b_648 kb_648 .int (2 : Int32) [(.int k0), (.int k1)] (.int (0 : Int32)) := ((F667.ext E664).keep Kc678 (ninS ne656 nin0))
          have go700 : Go p e below s₁ F0 T695 (mkF m 203 #[vi p1, vi p2, vi p3, vi b, vi (2 : Int32), vi l0, vi l1, vi l2, vi (2 : Int32), vi k0, vi k1, vi k2, vr b_540, vr b_648, vr b653, vi (0 : Int32)] [(.ref b_648), (.ref b653)]) := by
            intro t_ k_
            refine go696 t_ ?_
            refine o_ifYes X695 hx (hb hby at_167) (pc' := 196) rfl (by decide) ((if0 _ _).trans (teq hc167_697).1) ?_
            refine o_iconst X695 hx (hb hby at_196) (v := 0) rfl ?_
            refine o_istore X695 hx (hb hby at_197) (L' := #[vi p1, vi p2, vi p3, vi b, vi (2 : Int32), vi l0, vi l1, vi l2, vi (2 : Int32), vi k0, vi k1, vi k2, vr b_540, vr b_648, vr b653, vi (0 : Int32)]) rfl ?_
            refine o_aload X695 hx (hb hby at_199) rfl rfl ?_
            refine o_aload X695 hx (hb hby at_201) rfl rfl ?_
            exact k_
          have F702 : Exa Z T678.heap b653 c_0 := (F672.keep Kc678)
          obtain ⟨cq701, kq701, q701a, q701b, q701c⟩ := isOf hZ eh695 F702
          obtain ⟨_, _, ⟨T701, L701, k701, n701⟩, -, X701, ⟨Lc701, hQ701, l701, y701, z701⟩, st701⟩ := X695.virtualBack hx (y := y_4) (z := y_4) hown (mvT hZ (own_w hw 31 rfl)) (mvT hZ (own_w hw 32 rfl)) (notFace_of_selects (args := #[]) (mvT hZ (own_w hw 34 rfl))) (mvT hZ (own_w hw 34 rfl)) (mvT hZ (own_w hw 33 rfl)) (by decide) (backOf (W := 0) (rm6_2_2 l Z a0 hw [] b653 b_648 b_540 kb_540 kb_648 l0 l1 k0 k1 (T678.heap) n0 Z679 F4_678 F698 F699 (own_s0 h_b h_k0 h_k1)) hZ (own_w hw 35 rfl) (own_w hw 7 rfl) (by decide) (by decide)) q701a q701c (g := (mkF m 203 #[vi p1, vi p2, vi p3, vi b, vi (2 : Int32), vi l0, vi l1, vi l2, vi (2 : Int32), vi k0, vi k1, vi k2, vr b_540, vr b_648, vr b653, vi (0 : Int32)] [(.ref b_648), (.ref b653)])) rfl (by rw [hml]; rfl) (Steps.refl _) (argsL := [(.ref b_648)]) (rest := []) (lenOf pd0_2 rfl) rfl (by show 2 * 0 + _ ≤ _; exact Nat.le_of_eq rfl) (hb hby at_203) (fun _ _ => ⟨rfl, eh695, (by decide : 4 + 0 ≤ _), (by decide : 8 + 0 ≤ _)⟩)
          dsimp only [Pt.U, Pt.locs, Pt.cells, Pt.slots] at X701 l701 y701 z701 st701 hQ701
          subst l701 y701 z701
          obtain ⟨rfl, Nq701, eh701⟩ := hQ701
          have N701 := Fr.app N695 Nq701
          have go703 : Go p e below s₁ F0 T701 (mkF m 206 #[vi p1, vi p2, vi p3, vi b, vi (2 : Int32), vi l0, vi l1, vi l2, vi (2 : Int32), vi k0, vi k1, vi k2, vr b_540, vr b_648, vr b653, vi (0 : Int32)] [(.int (f6_2_2 l0 l1 k0 k1))]) := fun t_ k_ => go700 t_ (st701.trans k_)
          have go705 : Go p e below s₁ F0 T701 (mkF m 208 #[vi p1, vi p2, vi p3, vi b, vi (2 : Int32), vi l0, vi l1, vi l2, vi (2 : Int32), vi k0, vi k1, vi k2, vr b_540, vr b_648, vr b653, vi (0 : Int32)] [(.int (0 : Int32)), (.int (f6_2_2 l0 l1 k0 k1))]) := by
            intro t_ k_
            refine go703 t_ ?_
            refine o_iload X701 hx (hb hby at_206) rfl ?_
            exact k_
          have hd704 : (f6_2_2 l0 l1 k0 k1) = (0 : Int32) := own_no_2_2_1 l0 l1 l2 k0 k1 k2 (own_s0 h_b h_l0 h_l1) (own_s0 h_b h_k0 h_k1) hc167_697
          have go706 : Go p e below s₁ F0 T701 (mkF m 216 #[vi p1, vi p2, vi p3, vi b, vi (2 : Int32), vi l0, vi l1, vi l2, vi (2 : Int32), vi k0, vi k1, vi k2, vr b_540, vr b_648, vr b653, vi (0 : Int32)] [(.int (1 : Int32))]) := by
            intro t_ k_
            refine go705 t_ ?_
            refine o_icmpNo X701 hx (hb hby at_208) (teq hd704).2 ?_
            refine o_iconst X701 hx (hb hby at_211) (v := 1) rfl ?_
            refine o_goto X701 hx (hb hby at_212) (pc' := 216) rfl (by decide) ?_
            exact k_
          obtain ⟨fs, hr, hrun, hended, hW, hsame⟩ := X701.leave (v := some (.int (1 : Int32))) (fun h => by rw [Bd.returns] at h; cases h)
          refine ⟨_, _, pre0 _ (go706 _ ?_), hrun, hended, _, _, rfl, ?_, ⟨_, rfl⟩, hW, hsame.mono (by decide) (by decide)⟩
          · skip
            exact retN X701 hx (t := .boolean) Bd.returns (by simp) (hb hby at_216) hr
          · show Q0 Z p1 p2 p3 h0 n0 _ T701.heap _
            rw [eh701]
            exact ⟨rfl, N701⟩
        · skip
          have F707 : Arv Z T678.heap b_540 kb_540 .int (2 : Int32) [(.int l0), (.int l1)] (.int (0 : Int32)) := ((F665.ext E664).keep Kc678 (ninS ne655 nin0))
          have F708 : Arv Z T678.heap b_648 kb_648 .int (2 : Int32) [(.int k0), (.int k1)] (.int (0 : Int32)) := ((F667.ext E664).keep Kc678 (ninS ne656 nin0))
          have go709 : Go p e below s₁ F0 T695 (mkF m 203 #[vi p1, vi p2, vi p3, vi b, vi (2 : Int32), vi l0, vi l1, vi l2, vi (2 : Int32), vi k0, vi k1, vi k2, vr b_540, vr b_648, vr b653, vi (1 : Int32)] [(.ref b_648), (.ref b653)]) := by
            intro t_ k_
            refine go696 t_ ?_
            refine o_ifNo X695 hx (hb hby at_167) ((if0 _ _).trans (feq hc167_697).1) ?_
            refine o_iload X695 hx (hb hby at_170) rfl ?_
            refine o_iconst X695 hx (hb hby at_172) (v := 3) rfl ?_
            refine o_icmpYes X695 hx (hb hby at_173) (pc' := 192) rfl (by decide) (tlt (by decide : (2 : Int32) < (3 : Int32))).1 ?_
            refine o_iconst X695 hx (hb hby at_192) (v := 1) rfl ?_
            refine o_goto X695 hx (hb hby at_193) (pc' := 197) rfl (by decide) ?_
            refine o_istore X695 hx (hb hby at_197) (L' := #[vi p1, vi p2, vi p3, vi b, vi (2 : Int32), vi l0, vi l1, vi l2, vi (2 : Int32), vi k0, vi k1, vi k2, vr b_540, vr b_648, vr b653, vi (1 : Int32)]) rfl ?_
            refine o_aload X695 hx (hb hby at_199) rfl rfl ?_
            refine o_aload X695 hx (hb hby at_201) rfl rfl ?_
            exact k_
          have F711 : Exa Z T678.heap b653 c_0 := (F672.keep Kc678)
          obtain ⟨cq710, kq710, q710a, q710b, q710c⟩ := isOf hZ eh695 F711
          obtain ⟨_, _, ⟨T710, L710, k710, n710⟩, -, X710, ⟨Lc710, hQ710, l710, y710, z710⟩, st710⟩ := X695.virtualBack hx (y := y_4) (z := y_4) hown (mvT hZ (own_w hw 31 rfl)) (mvT hZ (own_w hw 32 rfl)) (notFace_of_selects (args := #[]) (mvT hZ (own_w hw 34 rfl))) (mvT hZ (own_w hw 34 rfl)) (mvT hZ (own_w hw 33 rfl)) (by decide) (backOf (W := 0) (rm6_2_2 l Z a0 hw [] b653 b_648 b_540 kb_540 kb_648 l0 l1 k0 k1 (T678.heap) n0 Z679 F4_678 F707 F708 (own_s0 h_b h_k0 h_k1)) hZ (own_w hw 35 rfl) (own_w hw 7 rfl) (by decide) (by decide)) q710a q710c (g := (mkF m 203 #[vi p1, vi p2, vi p3, vi b, vi (2 : Int32), vi l0, vi l1, vi l2, vi (2 : Int32), vi k0, vi k1, vi k2, vr b_540, vr b_648, vr b653, vi (1 : Int32)] [(.ref b_648), (.ref b653)])) rfl (by rw [hml]; rfl) (Steps.refl _) (argsL := [(.ref b_648)]) (rest := []) (lenOf pd0_2 rfl) rfl (by show 2 * 0 + _ ≤ _; exact Nat.le_of_eq rfl) (hb hby at_203) (fun _ _ => ⟨rfl, eh695, (by decide : 4 + 0 ≤ _), (by decide : 8 + 0 ≤ _)⟩)
          dsimp only [Pt.U, Pt.locs, Pt.cells, Pt.slots] at X710 l710 y710 z710 st710 hQ710
          subst l710 y710 z710
          obtain ⟨rfl, Nq710, eh710⟩ := hQ710
          have N710 := Fr.app N695 Nq710
          have go712 : Go p e below s₁ F0 T710 (mkF m 206 #[vi p1, vi p2, vi p3, vi b, vi (2 : Int32), vi l0, vi l1, vi l2, vi (2 : Int32), vi k0, vi k1, vi k2, vr b_540, vr b_648, vr b653, vi (1 : Int32)] [(.int (f6_2_2 l0 l1 k0 k1))]) := fun t_ k_ => go709 t_ (st710.trans k_)
          have go714 : Go p e below s₁ F0 T710 (mkF m 208 #[vi p1, vi p2, vi p3, vi b, vi (2 : Int32), vi l0, vi l1, vi l2, vi (2 : Int32), vi k0, vi k1, vi k2, vr b_540, vr b_648, vr b653, vi (1 : Int32)] [(.int (1 : Int32)), (.int (f6_2_2 l0 l1 k0 k1))]) := by
            intro t_ k_
            refine go712 t_ ?_
            refine o_iload X710 hx (hb hby at_206) rfl ?_
            exact k_
          have hd713 : (f6_2_2 l0 l1 k0 k1) = (1 : Int32) := own_yes_2_2 l0 l1 l2 k0 k1 k2 (own_s0 h_b h_l0 h_l1) (own_s0 h_b h_k0 h_k1) hc145_684 hc167_697
          have go715 : Go p e below s₁ F0 T710 (mkF m 216 #[vi p1, vi p2, vi p3, vi b, vi (2 : Int32), vi l0, vi l1, vi l2, vi (2 : Int32), vi k0, vi k1, vi k2, vr b_540, vr b_648, vr b653, vi (1 : Int32)] [(.int (1 : Int32))]) := by
            intro t_ k_
            refine go714 t_ ?_
            refine o_icmpNo X710 hx (hb hby at_208) (teq hd713).2 ?_
            refine o_iconst X710 hx (hb hby at_211) (v := 1) rfl ?_
            refine o_goto X710 hx (hb hby at_212) (pc' := 216) rfl (by decide) ?_
            exact k_
          obtain ⟨fs, hr, hrun, hended, hW, hsame⟩ := X710.leave (v := some (.int (1 : Int32))) (fun h => by rw [Bd.returns] at h; cases h)
          refine ⟨_, _, pre0 _ (go715 _ ?_), hrun, hended, _, _, rfl, ?_, ⟨_, rfl⟩, hW, hsame.mono (by decide) (by decide)⟩
          · skip
            exact retN X710 hx (t := .boolean) Bd.returns (by simp) (hb hby at_216) hr
          · show Q0 Z p1 p2 p3 h0 n0 _ T710.heap _
            rw [eh710]
            exact ⟨rfl, N710⟩
    · skip
      have go716 : Go p e below s₁ F0 T540 (mkF m 95 #[vi p1, vi p2, vi p3, vi b, vi (2 : Int32), vi l0, vi l1, vi l2, vi (3 : Int32), vi k0, vi k1, vi k2, vr b_540, .unset, .unset, .unset] []) := by rw [hcs544] at go543; exact go543
      have go717 : Go p e below s₁ F0 T540 (mkF m 103 #[vi p1, vi p2, vi p3, vi b, vi (2 : Int32), vi l0, vi l1, vi l2, vi (3 : Int32), vi k0, vi k1, vi k2, vr b_540, .unset, .unset, .unset] [(.int k2), (.int k1), (.int k0), (.int (3 : Int32))]) := by
        intro t_ k_
        refine go716 t_ ?_
        refine o_iload X540 hx (hb hby at_95) rfl ?_
        refine o_iload X540 hx (hb hby at_97) rfl ?_
        refine o_iload X540 hx (hb hby at_99) rfl ?_
        refine o_iload X540 hx (hb hby at_101) rfl ?_
        exact k_
      obtain ⟨_, _, ⟨T718, L718, k718, n718⟩, -, X718, ⟨Lc718, hQ718, l718, y718, z718⟩, st718⟩ := Jvm.LawKit.callS X540 hx (y := y_1) hown (mvT hZ (own_w hw 0 rfl)) (mvT hZ (own_w hw 1 rfl)) (mvT hZ (own_w hw 2 rfl)) (mvT hZ (own_w hw 3 rfl)) (by decide) (backOf (W := 0) (rm1_3 l Z a0 hw [] k0 k1 k2 (T540.heap) n0 Z541 ) hZ (own_w hw 3 rfl) (own_w hw 2 rfl) (by decide) (by decide)) (g := (mkF m 103 #[vi p1, vi p2, vi p3, vi b, vi (2 : Int32), vi l0, vi l1, vi l2, vi (3 : Int32), vi k0, vi k1, vi k2, vr b_540, .unset, .unset, .unset] [(.int k2), (.int k1), (.int k0), (.int (3 : Int32))])) rfl (by rw [hml]; rfl) (argsL := [(.int (3 : Int32)), (.int k0), (.int k1), (.int k2)]) (rest := []) (lenOf pd0_0 rfl) rfl (by show 2 * 0 + _ ≤ _; exact Nat.le_of_eq rfl) (hb hby at_103) (fun _ _ => ⟨rfl, rfl, (by decide : 1 + 1 ≤ _), (by decide : 2 + 3 ≤ _)⟩)
      dsimp only [Pt.U, Pt.locs, Pt.cells, Pt.slots] at X718 l718 y718 z718 st718 hQ718
      subst l718 y718 z718
      obtain ⟨b_718, kb_718, rfl, Nq718, Kc718, hb_718, V_718⟩ := hQ718
      have N718 := Fr.app N540 Nq718
      have ne719 : b_540 ≠ b_718 := Nat.ne_of_lt (Nat.lt_of_lt_of_le V_540.lt hb_718)
      have g_b_718 : n0 ≤ b_718 := Nat.le_trans Z541 hb_718
      have Z720 : n0 ≤ T718.heap.size := Nat.le_trans Z541 Kc718.1
      have go721 : Go p e below s₁ F0 T718 (mkF m 106 #[vi p1, vi p2, vi p3, vi b, vi (2 : Int32), vi l0, vi l1, vi l2, vi (3 : Int32), vi k0, vi k1, vi k2, vr b_540, .unset, .unset, .unset] [(.ref b_718)]) := fun t_ k_ => go717 t_ (st718 t_ k_)
      have go722 : Go p e below s₁ F0 T718 (mkF m 108 #[vi p1, vi p2, vi p3, vi b, vi (2 : Int32), vi l0, vi l1, vi l2, vi (3 : Int32), vi k0, vi k1, vi k2, vr b_540, vr b_718, .unset, .unset] []) := by
        intro t_ k_
        refine go721 t_ ?_
        refine o_astore X718 hx (hb hby at_106) rfl (L' := #[vi p1, vi p2, vi p3, vi b, vi (2 : Int32), vi l0, vi l1, vi l2, vi (3 : Int32), vi k0, vi k1, vi k2, vr b_540, vr b_718, .unset, .unset]) rfl ?_
        exact k_
      obtain ⟨T723, h723, X723, e723, E723, A723, D723, -, st723⟩ := newO X718 hx hZ hown (own_w hw 5 rfl) (own_w hw 6 rfl) (own_w hw 7 rfl) rfl (g := (mkF m 108 #[vi p1, vi p2, vi p3, vi b, vi (2 : Int32), vi l0, vi l1, vi l2, vi (3 : Int32), vi k0, vi k1, vi k2, vr b_540, vr b_718, .unset, .unset] [])) rfl (hb hby at_108) (by decide) (by decide)
      obtain ⟨b723, gz723⟩ : ∃ z, z = T718.heap.size := ⟨_, rfl⟩
      rw [← gz723] at A723 D723 st723
      have F724 : Arv Z T718.heap b_540 kb_540 .int (2 : Int32) [(.int l0), (.int l1)] (.int (0 : Int32)) := (V_540.keep Kc718 nin0)
      have ne725 : b_540 ≠ b723 := Nat.ne_of_lt (Nat.lt_of_lt_of_le F724.lt (Nat.le_of_eq gz723.symm))
      have ne726 : b_718 ≠ b723 := Nat.ne_of_lt (Nat.lt_of_lt_of_le V_718.lt (Nat.le_of_eq gz723.symm))
      have g_b723 : n0 ≤ b723 := Nat.le_trans Z720 (Nat.le_of_eq gz723.symm)
      have Z727 : n0 ≤ h723.size := Nat.le_trans Z720 E723.1
      have F728 : Fld Z h723 b723 c_0 "id" "J" (.long (0 : Int64)) := D723 (Or.inr (own_w hw 21 rfl)) (ty := .long) (by decide)
      have F729 : Fld Z h723 b723 c_0 "power" "J" (.long (0 : Int64)) := D723 (Or.inr (own_w hw 23 rfl)) (ty := .long) (by decide)
      have F730 : Fld Z h723 b723 c_0 "units" "[I" .null := D723 (Or.inr (own_w hw 25 rfl)) (ty := (.array .int)) (by decide)
      have F731 : Fld Z h723 b723 c_0 "licences" "[I" .null := D723 (Or.inr (own_w hw 27 rfl)) (ty := (.array .int)) (by decide)
      have go732 : Go p e below s₁ F0 T723 (mkF m 111 #[vi p1, vi p2, vi p3, vi b, vi (2 : Int32), vi l0, vi l1, vi l2, vi (3 : Int32), vi k0, vi k1, vi k2, vr b_540, vr b_718, .unset, .unset] [(.ref b723)]) := fun t_ k_ => go722 t_ (st723 t_ k_)
      have go733 : Go p e below s₁ F0 T723 (mkF m 117 #[vi p1, vi p2, vi p3, vi b, vi (2 : Int32), vi l0, vi l1, vi l2, vi (3 : Int32), vi k0, vi k1, vi k2, vr b_540, vr b_718, .unset, .unset] [(.int (0 : Int32)), (.long (1000000 : Int64)), (.long (0 : Int64)), (.ref b723), (.ref b723)]) := by
        intro t_ k_
        refine go732 t_ ?_
        refine o_dup X723 hx (hb hby at_111) rfl ?_
        refine o_lconst X723 hx (hb hby at_112) (v := 0) rfl ?_
        refine o_ldc2 X723 hx hown (mvT hZ (own_w hw 8 rfl)) (hb hby at_113) ?_
        refine o_iconst X723 hx (hb hby at_116) (v := 0) rfl ?_
        exact k_
      obtain ⟨T734, h734, k734, X734, e734, E734, A734, st734⟩ := newP X723 hx hZ (own_w hw 4 rfl) e723 (g := (mkF m 117 #[vi p1, vi p2, vi p3, vi b, vi (2 : Int32), vi l0, vi l1, vi l2, vi (3 : Int32), vi k0, vi k1, vi k2, vr b_540, vr b_718, .unset, .unset] [(.int (0 : Int32)), (.long (1000000 : Int64)), (.long (0 : Int64)), (.ref b723), (.ref b723)])) rfl (hb hby at_117) rfl (by decide) (cap := 0) (by decide) (by decide) (by decide) (by decide)
      obtain ⟨b734, gz734⟩ : ∃ z, z = h723.size := ⟨_, rfl⟩
      rw [← gz734] at A734 st734
      have F735 : Arv Z h723 b_540 kb_540 .int (2 : Int32) [(.int l0), (.int l1)] (.int (0 : Int32)) := (F724.ext E723)
      have ne736 : b_540 ≠ b734 := Nat.ne_of_lt (Nat.lt_of_lt_of_le F735.lt (Nat.le_of_eq gz734.symm))
      have F737 : Arv Z h723 b_718 kb_718 .int (3 : Int32) [(.int k0), (.int k1), (.int k2)] (.int (0 : Int32)) := (V_718.ext E723)
      have ne738 : b_718 ≠ b734 := Nat.ne_of_lt (Nat.lt_of_lt_of_le F737.lt (Nat.le_of_eq gz734.symm))
      have ne739 : b723 ≠ b734 := Nat.ne_of_lt (Nat.lt_of_lt_of_le A723.lt (Nat.le_of_eq gz734.symm))
      have g_b734 : n0 ≤ b734 := Nat.le_trans Z727 (Nat.le_of_eq gz734.symm)
      have Z740 : n0 ≤ h734.size := Nat.le_trans Z727 E734.1
      have V734 : Arv Z h734 b734 k734 .int (0 : Int32) [] (.int (0 : Int32)) := (Arv.new A734 (by decide)).pad (pad_rep [] (.int (0 : Int32)) 0)
      have go741 : Go p e below s₁ F0 T734 (mkF m 119 #[vi p1, vi p2, vi p3, vi b, vi (2 : Int32), vi l0, vi l1, vi l2, vi (3 : Int32), vi k0, vi k1, vi k2, vr b_540, vr b_718, .unset, .unset] [(.ref b734), (.long (1000000 : Int64)), (.long (0 : Int64)), (.ref b723), (.ref b723)]) := fun t_ k_ => go733 t_ (st734 t_ k_)
      have F742 : Exa Z h734 b723 c_0 := (A723.ext E734)
      have F743 : Fld Z h734 b723 c_0 "id" "J" (.long (0 : Int64)) := (F728.ext E734)
      have F744 : Fld Z h734 b723 c_0 "power" "J" (.long (0 : Int64)) := (F729.ext E734)
      have F745 : Fld Z h734 b723 c_0 "units" "[I" .null := (F730.ext E734)
      have F746 : Fld Z h734 b723 c_0 "licences" "[I" .null := (F731.ext E734)
      have go747 : Go p e below s₁ F0 T734 (mkF m 121 #[vi p1, vi p2, vi p3, vi b, vi (2 : Int32), vi l0, vi l1, vi l2, vi (3 : Int32), vi k0, vi k1, vi k2, vr b_540, vr b_718, .unset, .unset] [(.ref b_540), (.ref b734), (.long (1000000 : Int64)), (.long (0 : Int64)), (.ref b723), (.ref b723)]) := by
        intro t_ k_
        refine go741 t_ ?_
        refine o_aload X734 hx (hb hby at_119) rfl rfl ?_
        exact k_
      obtain ⟨_, _, ⟨T748, L748, k748, n748⟩, -, X748, ⟨Lc748, hQ748, l748, y748, z748⟩, st748⟩ := X734.specialBack hx (y := y_2) rfl hown (mvT hZ (own_w hw 9 rfl)) (mvT hZ (own_w hw 10 rfl)) (mvT hZ (own_w hw 11 rfl)) (by decide) (backOf (W := 1) (rm2 l Z a0 hw [] b723 (0 : Int64) (1000000 : Int64) b734 b_540 h734 n0 Z740 F742 F743 F744 F745 F746 g_b723) hZ (own_w hw 11 rfl) (own_w hw 7 rfl) (by decide) (by decide)) (g := (mkF m 121 #[vi p1, vi p2, vi p3, vi b, vi (2 : Int32), vi l0, vi l1, vi l2, vi (3 : Int32), vi k0, vi k1, vi k2, vr b_540, vr b_718, .unset, .unset] [(.ref b_540), (.ref b734), (.long (1000000 : Int64)), (.long (0 : Int64)), (.ref b723), (.ref b723)])) rfl (by rw [hml]; rfl) (Steps.refl _) (a := b723) (argsL := [(.long (0 : Int64)), (.long (1000000 : Int64)), (.ref b734), (.ref b_540)]) (rest := [(.ref b723)]) (lenOf pd0_1 rfl) rfl (by show 2 * 0 + _ ≤ _; exact Nat.le_of_eq rfl) (hb hby at_121) (fun _ _ => ⟨rfl, e734, (by decide : 4 + 0 ≤ _), (by decide : 9 + 0 ≤ _)⟩)
      dsimp only [Pt.U, Pt.locs, Pt.cells, Pt.slots] at X748 l748 y748 z748 st748 hQ748
      subst l748 y748 z748
      obtain ⟨rfl, Nq748, Kc748, F4_748⟩ := hQ748
      have N748 := Fr.app N718 Nq748
      have Z749 : n0 ≤ T748.heap.size := Nat.le_trans Z740 Kc748.1
      have go750 : Go p e below s₁ F0 T748 (mkF m 124 #[vi p1, vi p2, vi p3, vi b, vi (2 : Int32), vi l0, vi l1, vi l2, vi (3 : Int32), vi k0, vi k1, vi k2, vr b_540, vr b_718, .unset, .unset] [(.ref b723)]) := fun t_ k_ => go747 t_ (st748.trans k_)
      have go751 : Go p e below s₁ F0 T748 (mkF m 142 #[vi p1, vi p2, vi p3, vi b, vi (2 : Int32), vi l0, vi l1, vi l2, vi (3 : Int32), vi k0, vi k1, vi k2, vr b_540, vr b_718, vr b723, .unset] [(.int k0), (.int l2), (.int l1), (.int l0), (.int (2 : Int32))]) := by
        intro t_ k_
        refine go750 t_ ?_
        refine o_astore X748 hx (hb hby at_124) rfl (L' := #[vi p1, vi p2, vi p3, vi b, vi (2 : Int32), vi l0, vi l1, vi l2, vi (3 : Int32), vi k0, vi k1, vi k2, vr b_540, vr b_718, vr b723, .unset]) rfl ?_
        refine o_iload X748 hx (hb hby at_126) rfl ?_
        refine o_iconst X748 hx (hb hby at_128) (v := 1) rfl ?_
        refine o_icmpNo X748 hx (hb hby at_129) (flt (by decide : ¬ ((3 : Int32) < (1 : Int32)))).1 ?_
        refine o_iload X748 hx (hb hby at_132) rfl ?_
        refine o_iload X748 hx (hb hby at_134) rfl ?_
        refine o_iload X748 hx (hb hby at_136) rfl ?_
        refine o_iload X748 hx (hb hby at_138) rfl ?_
        refine o_iload X748 hx (hb hby at_140) rfl ?_
        exact k_
      obtain ⟨_, _, ⟨T752, L752, k752, n752⟩, -, X752, ⟨Lc752, hQ752, l752, y752, z752⟩, st752⟩ := Jvm.LawKit.callS X748 hx (y := y_3) hown (mvT hZ (own_w hw 28 rfl)) (mvT hZ (own_w hw 29 rfl)) (mvT hZ (own_w hw 2 rfl)) (mvT hZ (own_w hw 30 rfl)) (by decide) (backOf (W := 0) (rm5_2 l Z a0 hw [] l0 l1 l2 k0 (T748.heap) n0 Z749 ) hZ (own_w hw 30 rfl) (own_w hw 2 rfl) (by decide) (by decide)) (g := (mkF m 142 #[vi p1, vi p2, vi p3, vi b, vi (2 : Int32), vi l0, vi l1, vi l2, vi (3 : Int32), vi k0, vi k1, vi k2, vr b_540, vr b_718, vr b723, .unset] [(.int k0), (.int l2), (.int l1), (.int l0), (.int (2 : Int32))])) rfl (by rw [hml]; rfl) (argsL := [(.int (2 : Int32)), (.int l0), (.int l1), (.int l2), (.int k0)]) (rest := []) (lenOf pd0_3 rfl) rfl (by show 2 * 0 + _ ≤ _; exact Nat.le_of_eq rfl) (hb hby at_142) (fun _ _ => ⟨rfl, rfl, (by decide : 4 + 0 ≤ _), (by decide : 9 + 0 ≤ _)⟩)
      dsimp only [Pt.U, Pt.locs, Pt.cells, Pt.slots] at X752 l752 y752 z752 st752 hQ752
      subst l752 y752 z752
      obtain ⟨rfl, Nq752, eh752⟩ := hQ752
      have N752 := Fr.app N748 Nq752
      have go753 : Go p e below s₁ F0 T752 (mkF m 145 #[vi p1, vi p2, vi p3, vi b, vi (2 : Int32), vi l0, vi l1, vi l2, vi (3 : Int32), vi k0, vi k1, vi k2, vr b_540, vr b_718, vr b723, .unset] [(.int (f5_2 l0 l1 l2 k0))]) := fun t_ k_ => go751 t_ (st752 t_ k_)
      by_cases hc145_754 : (f5_2 l0 l1 l2 k0) = (0 : Int32)
      · skip
        have F755 : Arv Z T748.heap b_540 kb_540 .int (2 : Int32) [(.int l0), (.int l1)] (.int (0 : Int32)) := ((F735.ext E734).keep Kc748 (ninS ne725 nin0))
        have F756 : Arv Z T748.heap b_718 kb_718 .int (3 : Int32) [(.int k0), (.int k1), (.int k2)] (.int (0 : Int32)) := ((F737.ext E734).keep Kc748 (ninS ne726 nin0))
        have go757 : Go p e below s₁ F0 T752 (mkF m 203 #[vi p1, vi p2, vi p3, vi b, vi (2 : Int32), vi l0, vi l1, vi l2, vi (3 : Int32), vi k0, vi k1, vi k2, vr b_540, vr b_718, vr b723, vi (0 : Int32)] [(.ref b_718), (.ref b723)]) := by
          intro t_ k_
          refine go753 t_ ?_
          refine o_ifYes X752 hx (hb hby at_145) (pc' := 196) rfl (by decide) ((if0 _ _).trans (teq hc145_754).1) ?_
          refine o_iconst X752 hx (hb hby at_196) (v := 0) rfl ?_
          refine o_istore X752 hx (hb hby at_197) (L' := #[vi p1, vi p2, vi p3, vi b, vi (2 : Int32), vi l0, vi l1, vi l2, vi (3 : Int32), vi k0, vi k1, vi k2, vr b_540, vr b_718, vr b723, vi (0 : Int32)]) rfl ?_
          refine o_aload X752 hx (hb hby at_199) rfl rfl ?_
          refine o_aload X752 hx (hb hby at_201) rfl rfl ?_
          exact k_
        have F759 : Exa Z T748.heap b723 c_0 := (F742.keep Kc748)
        obtain ⟨cq758, kq758, q758a, q758b, q758c⟩ := isOf hZ eh752 F759
        obtain ⟨_, _, ⟨T758, L758, k758, n758⟩, -, X758, ⟨Lc758, hQ758, l758, y758, z758⟩, st758⟩ := X752.virtualBack hx (y := y_4) (z := y_4) hown (mvT hZ (own_w hw 31 rfl)) (mvT hZ (own_w hw 32 rfl)) (notFace_of_selects (args := #[]) (mvT hZ (own_w hw 34 rfl))) (mvT hZ (own_w hw 34 rfl)) (mvT hZ (own_w hw 33 rfl)) (by decide) (backOf (W := 0) (rm6_2_3 l Z a0 hw [] b723 b_718 b_540 kb_540 kb_718 l0 l1 k0 k1 k2 (T748.heap) n0 Z749 F4_748 F755 F756 (own_s0 h_b h_k0 h_k1) (own_s1 h_b h_k0 h_k1 h_k2)) hZ (own_w hw 35 rfl) (own_w hw 7 rfl) (by decide) (by decide)) q758a q758c (g := (mkF m 203 #[vi p1, vi p2, vi p3, vi b, vi (2 : Int32), vi l0, vi l1, vi l2, vi (3 : Int32), vi k0, vi k1, vi k2, vr b_540, vr b_718, vr b723, vi (0 : Int32)] [(.ref b_718), (.ref b723)])) rfl (by rw [hml]; rfl) (Steps.refl _) (argsL := [(.ref b_718)]) (rest := []) (lenOf pd0_2 rfl) rfl (by show 2 * 0 + _ ≤ _; exact Nat.le_of_eq rfl) (hb hby at_203) (fun _ _ => ⟨rfl, eh752, (by decide : 4 + 0 ≤ _), (by decide : 9 + 0 ≤ _)⟩)
        dsimp only [Pt.U, Pt.locs, Pt.cells, Pt.slots] at X758 l758 y758 z758 st758 hQ758
        subst l758 y758 z758
        obtain ⟨rfl, Nq758, eh758⟩ := hQ758
        have N758 := Fr.app N752 Nq758
        have go760 : Go p e below s₁ F0 T758 (mkF m 206 #[vi p1, vi p2, vi p3, vi b, vi (2 : Int32), vi l0, vi l1, vi l2, vi (3 : Int32), vi k0, vi k1, vi k2, vr b_540, vr b_718, vr b723, vi (0 : Int32)] [(.int (f6_2_3 l0 l1 k0 k1 k2))]) := fun t_ k_ => go757 t_ (st758.trans k_)
        have go762 : Go p e below s₁ F0 T758 (mkF m 208 #[vi p1, vi p2, vi p3, vi b, vi (2 : Int32), vi l0, vi l1, vi l2, vi (3 : Int32), vi k0, vi k1, vi k2, vr b_540, vr b_718, vr b723, vi (0 : Int32)] [(.int (0 : Int32)), (.int (f6_2_3 l0 l1 k0 k1 k2))]) := by
          intro t_ k_
          refine go760 t_ ?_
          refine o_iload X758 hx (hb hby at_206) rfl ?_
          exact k_
        have hd761 : (f6_2_3 l0 l1 k0 k1 k2) = (0 : Int32) := own_no_2_3_0 l0 l1 l2 k0 k1 k2 (own_s0 h_b h_l0 h_l1) (own_s0 h_b h_k0 h_k1) (own_s1 h_b h_k0 h_k1 h_k2) hc145_754
        have go763 : Go p e below s₁ F0 T758 (mkF m 216 #[vi p1, vi p2, vi p3, vi b, vi (2 : Int32), vi l0, vi l1, vi l2, vi (3 : Int32), vi k0, vi k1, vi k2, vr b_540, vr b_718, vr b723, vi (0 : Int32)] [(.int (1 : Int32))]) := by
          intro t_ k_
          refine go762 t_ ?_
          refine o_icmpNo X758 hx (hb hby at_208) (teq hd761).2 ?_
          refine o_iconst X758 hx (hb hby at_211) (v := 1) rfl ?_
          refine o_goto X758 hx (hb hby at_212) (pc' := 216) rfl (by decide) ?_
          exact k_
        obtain ⟨fs, hr, hrun, hended, hW, hsame⟩ := X758.leave (v := some (.int (1 : Int32))) (fun h => by rw [Bd.returns] at h; cases h)
        refine ⟨_, _, pre0 _ (go763 _ ?_), hrun, hended, _, _, rfl, ?_, ⟨_, rfl⟩, hW, hsame.mono (by decide) (by decide)⟩
        · skip
          exact retN X758 hx (t := .boolean) Bd.returns (by simp) (hb hby at_216) hr
        · show Q0 Z p1 p2 p3 h0 n0 _ T758.heap _
          rw [eh758]
          exact ⟨rfl, N758⟩
      · skip
        have go764 : Go p e below s₁ F0 T752 (mkF m 164 #[vi p1, vi p2, vi p3, vi b, vi (2 : Int32), vi l0, vi l1, vi l2, vi (3 : Int32), vi k0, vi k1, vi k2, vr b_540, vr b_718, vr b723, .unset] [(.int k1), (.int l2), (.int l1), (.int l0), (.int (2 : Int32))]) := by
          intro t_ k_
          refine go753 t_ ?_
          refine o_ifNo X752 hx (hb hby at_145) ((if0 _ _).trans (feq hc145_754).1) ?_
          refine o_iload X752 hx (hb hby at_148) rfl ?_
          refine o_iconst X752 hx (hb hby at_150) (v := 2) rfl ?_
          refine o_icmpNo X752 hx (hb hby at_151) (flt (by decide : ¬ ((3 : Int32) < (2 : Int32)))).1 ?_
          refine o_iload X752 hx (hb hby at_154) rfl ?_
          refine o_iload X752 hx (hb hby at_156) rfl ?_
          refine o_iload X752 hx (hb hby at_158) rfl ?_
          refine o_iload X752 hx (hb hby at_160) rfl ?_
          refine o_iload X752 hx (hb hby at_162) rfl ?_
          exact k_
        obtain ⟨_, _, ⟨T765, L765, k765, n765⟩, -, X765, ⟨Lc765, hQ765, l765, y765, z765⟩, st765⟩ := Jvm.LawKit.callS X752 hx (y := y_3) hown (mvT hZ (own_w hw 28 rfl)) (mvT hZ (own_w hw 29 rfl)) (mvT hZ (own_w hw 2 rfl)) (mvT hZ (own_w hw 30 rfl)) (by decide) (backOf (W := 0) (rm5_2 l Z a0 hw [] l0 l1 l2 k1 (T748.heap) n0 Z749 ) hZ (own_w hw 30 rfl) (own_w hw 2 rfl) (by decide) (by decide)) (g := (mkF m 164 #[vi p1, vi p2, vi p3, vi b, vi (2 : Int32), vi l0, vi l1, vi l2, vi (3 : Int32), vi k0, vi k1, vi k2, vr b_540, vr b_718, vr b723, .unset] [(.int k1), (.int l2), (.int l1), (.int l0), (.int (2 : Int32))])) rfl (by rw [hml]; rfl) (argsL := [(.int (2 : Int32)), (.int l0), (.int l1), (.int l2), (.int k1)]) (rest := []) (lenOf pd0_3 rfl) rfl (by show 2 * 0 + _ ≤ _; exact Nat.le_of_eq rfl) (hb hby at_164) (fun _ _ => ⟨rfl, eh752, (by decide : 4 + 0 ≤ _), (by decide : 9 + 0 ≤ _)⟩)
        dsimp only [Pt.U, Pt.locs, Pt.cells, Pt.slots] at X765 l765 y765 z765 st765 hQ765
        subst l765 y765 z765
        obtain ⟨rfl, Nq765, eh765⟩ := hQ765
        have N765 := Fr.app N752 Nq765
        have go766 : Go p e below s₁ F0 T765 (mkF m 167 #[vi p1, vi p2, vi p3, vi b, vi (2 : Int32), vi l0, vi l1, vi l2, vi (3 : Int32), vi k0, vi k1, vi k2, vr b_540, vr b_718, vr b723, .unset] [(.int (f5_2 l0 l1 l2 k1))]) := fun t_ k_ => go764 t_ (st765 t_ k_)
        by_cases hc167_767 : (f5_2 l0 l1 l2 k1) = (0 : Int32)
        · skip
          have F768 : Arv Z T748.heap b_540 kb_540 .int (2 : Int32) [(.int l0), (.int l1)] (.int (0 : Int32)) := ((F735.ext E734).keep Kc748 (ninS ne725 nin0))
          have F769 : Arv Z T748.heap b_718 kb_718 .int (3 : Int32) [(.int k0), (.int k1), (.int k2)] (.int (0 : Int32)) := ((F737.ext E734).keep Kc748 (ninS ne726 nin0))
          have go770 : Go p e below s₁ F0 T765 (mkF m 203 #[vi p1, vi p2, vi p3, vi b, vi (2 : Int32), vi l0, vi l1, vi l2, vi (3 : Int32), vi k0, vi k1, vi k2, vr b_540, vr b_718, vr b723, vi (0 : Int32)] [(.ref b_718), (.ref b723)]) := by
            intro t_ k_
            refine go766 t_ ?_
            refine o_ifYes X765 hx (hb hby at_167) (pc' := 196) rfl (by decide) ((if0 _ _).trans (teq hc167_767).1) ?_
            refine o_iconst X765 hx (hb hby at_196) (v := 0) rfl ?_
            refine o_istore X765 hx (hb hby at_197) (L' := #[vi p1, vi p2, vi p3, vi b, vi (2 : Int32), vi l0, vi l1, vi l2, vi (3 : Int32), vi k0, vi k1, vi k2, vr b_540, vr b_718, vr b723, vi (0 : Int32)]) rfl ?_
            refine o_aload X765 hx (hb hby at_199) rfl rfl ?_
            refine o_aload X765 hx (hb hby at_201) rfl rfl ?_
            exact k_
          have F772 : Exa Z T748.heap b723 c_0 := (F742.keep Kc748)
          obtain ⟨cq771, kq771, q771a, q771b, q771c⟩ := isOf hZ eh765 F772
          obtain ⟨_, _, ⟨T771, L771, k771, n771⟩, -, X771, ⟨Lc771, hQ771, l771, y771, z771⟩, st771⟩ := X765.virtualBack hx (y := y_4) (z := y_4) hown (mvT hZ (own_w hw 31 rfl)) (mvT hZ (own_w hw 32 rfl)) (notFace_of_selects (args := #[]) (mvT hZ (own_w hw 34 rfl))) (mvT hZ (own_w hw 34 rfl)) (mvT hZ (own_w hw 33 rfl)) (by decide) (backOf (W := 0) (rm6_2_3 l Z a0 hw [] b723 b_718 b_540 kb_540 kb_718 l0 l1 k0 k1 k2 (T748.heap) n0 Z749 F4_748 F768 F769 (own_s0 h_b h_k0 h_k1) (own_s1 h_b h_k0 h_k1 h_k2)) hZ (own_w hw 35 rfl) (own_w hw 7 rfl) (by decide) (by decide)) q771a q771c (g := (mkF m 203 #[vi p1, vi p2, vi p3, vi b, vi (2 : Int32), vi l0, vi l1, vi l2, vi (3 : Int32), vi k0, vi k1, vi k2, vr b_540, vr b_718, vr b723, vi (0 : Int32)] [(.ref b_718), (.ref b723)])) rfl (by rw [hml]; rfl) (Steps.refl _) (argsL := [(.ref b_718)]) (rest := []) (lenOf pd0_2 rfl) rfl (by show 2 * 0 + _ ≤ _; exact Nat.le_of_eq rfl) (hb hby at_203) (fun _ _ => ⟨rfl, eh765, (by decide : 4 + 0 ≤ _), (by decide : 9 + 0 ≤ _)⟩)
          dsimp only [Pt.U, Pt.locs, Pt.cells, Pt.slots] at X771 l771 y771 z771 st771 hQ771
          subst l771 y771 z771
          obtain ⟨rfl, Nq771, eh771⟩ := hQ771
          have N771 := Fr.app N765 Nq771
          have go773 : Go p e below s₁ F0 T771 (mkF m 206 #[vi p1, vi p2, vi p3, vi b, vi (2 : Int32), vi l0, vi l1, vi l2, vi (3 : Int32), vi k0, vi k1, vi k2, vr b_540, vr b_718, vr b723, vi (0 : Int32)] [(.int (f6_2_3 l0 l1 k0 k1 k2))]) := fun t_ k_ => go770 t_ (st771.trans k_)
          have go775 : Go p e below s₁ F0 T771 (mkF m 208 #[vi p1, vi p2, vi p3, vi b, vi (2 : Int32), vi l0, vi l1, vi l2, vi (3 : Int32), vi k0, vi k1, vi k2, vr b_540, vr b_718, vr b723, vi (0 : Int32)] [(.int (0 : Int32)), (.int (f6_2_3 l0 l1 k0 k1 k2))]) := by
            intro t_ k_
            refine go773 t_ ?_
            refine o_iload X771 hx (hb hby at_206) rfl ?_
            exact k_
          have hd774 : (f6_2_3 l0 l1 k0 k1 k2) = (0 : Int32) := own_no_2_3_1 l0 l1 l2 k0 k1 k2 (own_s0 h_b h_l0 h_l1) (own_s0 h_b h_k0 h_k1) (own_s1 h_b h_k0 h_k1 h_k2) hc167_767
          have go776 : Go p e below s₁ F0 T771 (mkF m 216 #[vi p1, vi p2, vi p3, vi b, vi (2 : Int32), vi l0, vi l1, vi l2, vi (3 : Int32), vi k0, vi k1, vi k2, vr b_540, vr b_718, vr b723, vi (0 : Int32)] [(.int (1 : Int32))]) := by
            intro t_ k_
            refine go775 t_ ?_
            refine o_icmpNo X771 hx (hb hby at_208) (teq hd774).2 ?_
            refine o_iconst X771 hx (hb hby at_211) (v := 1) rfl ?_
            refine o_goto X771 hx (hb hby at_212) (pc' := 216) rfl (by decide) ?_
            exact k_
          obtain ⟨fs, hr, hrun, hended, hW, hsame⟩ := X771.leave (v := some (.int (1 : Int32))) (fun h => by rw [Bd.returns] at h; cases h)
          refine ⟨_, _, pre0 _ (go776 _ ?_), hrun, hended, _, _, rfl, ?_, ⟨_, rfl⟩, hW, hsame.mono (by decide) (by decide)⟩
          · skip
            exact retN X771 hx (t := .boolean) Bd.returns (by simp) (hb hby at_216) hr
          · show Q0 Z p1 p2 p3 h0 n0 _ T771.heap _
            rw [eh771]
            exact ⟨rfl, N771⟩
        · skip
          have go777 : Go p e below s₁ F0 T765 (mkF m 186 #[vi p1, vi p2, vi p3, vi b, vi (2 : Int32), vi l0, vi l1, vi l2, vi (3 : Int32), vi k0, vi k1, vi k2, vr b_540, vr b_718, vr b723, .unset] [(.int k2), (.int l2), (.int l1), (.int l0), (.int (2 : Int32))]) := by
            intro t_ k_
            refine go766 t_ ?_
            refine o_ifNo X765 hx (hb hby at_167) ((if0 _ _).trans (feq hc167_767).1) ?_
            refine o_iload X765 hx (hb hby at_170) rfl ?_
            refine o_iconst X765 hx (hb hby at_172) (v := 3) rfl ?_
            refine o_icmpNo X765 hx (hb hby at_173) (flt (by decide : ¬ ((3 : Int32) < (3 : Int32)))).1 ?_
            refine o_iload X765 hx (hb hby at_176) rfl ?_
            refine o_iload X765 hx (hb hby at_178) rfl ?_
            refine o_iload X765 hx (hb hby at_180) rfl ?_
            refine o_iload X765 hx (hb hby at_182) rfl ?_
            refine o_iload X765 hx (hb hby at_184) rfl ?_
            exact k_
          obtain ⟨_, _, ⟨T778, L778, k778, n778⟩, -, X778, ⟨Lc778, hQ778, l778, y778, z778⟩, st778⟩ := Jvm.LawKit.callS X765 hx (y := y_3) hown (mvT hZ (own_w hw 28 rfl)) (mvT hZ (own_w hw 29 rfl)) (mvT hZ (own_w hw 2 rfl)) (mvT hZ (own_w hw 30 rfl)) (by decide) (backOf (W := 0) (rm5_2 l Z a0 hw [] l0 l1 l2 k2 (T748.heap) n0 Z749 ) hZ (own_w hw 30 rfl) (own_w hw 2 rfl) (by decide) (by decide)) (g := (mkF m 186 #[vi p1, vi p2, vi p3, vi b, vi (2 : Int32), vi l0, vi l1, vi l2, vi (3 : Int32), vi k0, vi k1, vi k2, vr b_540, vr b_718, vr b723, .unset] [(.int k2), (.int l2), (.int l1), (.int l0), (.int (2 : Int32))])) rfl (by rw [hml]; rfl) (argsL := [(.int (2 : Int32)), (.int l0), (.int l1), (.int l2), (.int k2)]) (rest := []) (lenOf pd0_3 rfl) rfl (by show 2 * 0 + _ ≤ _; exact Nat.le_of_eq rfl) (hb hby at_186) (fun _ _ => ⟨rfl, eh765, (by decide : 4 + 0 ≤ _), (by decide : 9 + 0 ≤ _)⟩)
          dsimp only [Pt.U, Pt.locs, Pt.cells, Pt.slots] at X778 l778 y778 z778 st778 hQ778
          subst l778 y778 z778
          obtain ⟨rfl, Nq778, eh778⟩ := hQ778
          have N778 := Fr.app N765 Nq778
          have go779 : Go p e below s₁ F0 T778 (mkF m 189 #[vi p1, vi p2, vi p3, vi b, vi (2 : Int32), vi l0, vi l1, vi l2, vi (3 : Int32), vi k0, vi k1, vi k2, vr b_540, vr b_718, vr b723, .unset] [(.int (f5_2 l0 l1 l2 k2))]) := fun t_ k_ => go777 t_ (st778 t_ k_)
          by_cases hc189_780 : (f5_2 l0 l1 l2 k2) = (0 : Int32)
          · skip
            have F781 : Arv Z T748.heap b_540 kb_540 .int (2 : Int32) [(.int l0), (.int l1)] (.int (0 : Int32)) := ((F735.ext E734).keep Kc748 (ninS ne725 nin0))
            have F782 : Arv Z T748.heap b_718 kb_718 .int (3 : Int32) [(.int k0), (.int k1), (.int k2)] (.int (0 : Int32)) := ((F737.ext E734).keep Kc748 (ninS ne726 nin0))
            have go783 : Go p e below s₁ F0 T778 (mkF m 203 #[vi p1, vi p2, vi p3, vi b, vi (2 : Int32), vi l0, vi l1, vi l2, vi (3 : Int32), vi k0, vi k1, vi k2, vr b_540, vr b_718, vr b723, vi (0 : Int32)] [(.ref b_718), (.ref b723)]) := by
              intro t_ k_
              refine go779 t_ ?_
              refine o_ifYes X778 hx (hb hby at_189) (pc' := 196) rfl (by decide) ((if0 _ _).trans (teq hc189_780).1) ?_
              refine o_iconst X778 hx (hb hby at_196) (v := 0) rfl ?_
              refine o_istore X778 hx (hb hby at_197) (L' := #[vi p1, vi p2, vi p3, vi b, vi (2 : Int32), vi l0, vi l1, vi l2, vi (3 : Int32), vi k0, vi k1, vi k2, vr b_540, vr b_718, vr b723, vi (0 : Int32)]) rfl ?_
              refine o_aload X778 hx (hb hby at_199) rfl rfl ?_
              refine o_aload X778 hx (hb hby at_201) rfl rfl ?_
              exact k_
            have F785 : Exa Z T748.heap b723 c_0 := (F742.keep Kc748)
            obtain ⟨cq784, kq784, q784a, q784b, q784c⟩ := isOf hZ eh778 F785
            obtain ⟨_, _, ⟨T784, L784, k784, n784⟩, -, X784, ⟨Lc784, hQ784, l784, y784, z784⟩, st784⟩ := X778.virtualBack hx (y := y_4) (z := y_4) hown (mvT hZ (own_w hw 31 rfl)) (mvT hZ (own_w hw 32 rfl)) (notFace_of_selects (args := #[]) (mvT hZ (own_w hw 34 rfl))) (mvT hZ (own_w hw 34 rfl)) (mvT hZ (own_w hw 33 rfl)) (by decide) (backOf (W := 0) (rm6_2_3 l Z a0 hw [] b723 b_718 b_540 kb_540 kb_718 l0 l1 k0 k1 k2 (T748.heap) n0 Z749 F4_748 F781 F782 (own_s0 h_b h_k0 h_k1) (own_s1 h_b h_k0 h_k1 h_k2)) hZ (own_w hw 35 rfl) (own_w hw 7 rfl) (by decide) (by decide)) q784a q784c (g := (mkF m 203 #[vi p1, vi p2, vi p3, vi b, vi (2 : Int32), vi l0, vi l1, vi l2, vi (3 : Int32), vi k0, vi k1, vi k2, vr b_540, vr b_718, vr b723, vi (0 : Int32)] [(.ref b_718), (.ref b723)])) rfl (by rw [hml]; rfl) (Steps.refl _) (argsL := [(.ref b_718)]) (rest := []) (lenOf pd0_2 rfl) rfl (by show 2 * 0 + _ ≤ _; exact Nat.le_of_eq rfl) (hb hby at_203) (fun _ _ => ⟨rfl, eh778, (by decide : 4 + 0 ≤ _), (by decide : 9 + 0 ≤ _)⟩)
            dsimp only [Pt.U, Pt.locs, Pt.cells, Pt.slots] at X784 l784 y784 z784 st784 hQ784
            subst l784 y784 z784
            obtain ⟨rfl, Nq784, eh784⟩ := hQ784
            have N784 := Fr.app N778 Nq784
            have go786 : Go p e below s₁ F0 T784 (mkF m 206 #[vi p1, vi p2, vi p3, vi b, vi (2 : Int32), vi l0, vi l1, vi l2, vi (3 : Int32), vi k0, vi k1, vi k2, vr b_540, vr b_718, vr b723, vi (0 : Int32)] [(.int (f6_2_3 l0 l1 k0 k1 k2))]) := fun t_ k_ => go783 t_ (st784.trans k_)
            have go788 : Go p e below s₁ F0 T784 (mkF m 208 #[vi p1, vi p2, vi p3, vi b, vi (2 : Int32), vi l0, vi l1, vi l2, vi (3 : Int32), vi k0, vi k1, vi k2, vr b_540, vr b_718, vr b723, vi (0 : Int32)] [(.int (0 : Int32)), (.int (f6_2_3 l0 l1 k0 k1 k2))]) := by
              intro t_ k_
              refine go786 t_ ?_
              refine o_iload X784 hx (hb hby at_206) rfl ?_
              exact k_
            have hd787 : (f6_2_3 l0 l1 k0 k1 k2) = (0 : Int32) := own_no_2_3_2 l0 l1 l2 k0 k1 k2 (own_s0 h_b h_l0 h_l1) (own_s0 h_b h_k0 h_k1) (own_s1 h_b h_k0 h_k1 h_k2) hc189_780
            have go789 : Go p e below s₁ F0 T784 (mkF m 216 #[vi p1, vi p2, vi p3, vi b, vi (2 : Int32), vi l0, vi l1, vi l2, vi (3 : Int32), vi k0, vi k1, vi k2, vr b_540, vr b_718, vr b723, vi (0 : Int32)] [(.int (1 : Int32))]) := by
              intro t_ k_
              refine go788 t_ ?_
              refine o_icmpNo X784 hx (hb hby at_208) (teq hd787).2 ?_
              refine o_iconst X784 hx (hb hby at_211) (v := 1) rfl ?_
              refine o_goto X784 hx (hb hby at_212) (pc' := 216) rfl (by decide) ?_
              exact k_
            obtain ⟨fs, hr, hrun, hended, hW, hsame⟩ := X784.leave (v := some (.int (1 : Int32))) (fun h => by rw [Bd.returns] at h; cases h)
            refine ⟨_, _, pre0 _ (go789 _ ?_), hrun, hended, _, _, rfl, ?_, ⟨_, rfl⟩, hW, hsame.mono (by decide) (by decide)⟩
            · skip
              exact retN X784 hx (t := .boolean) Bd.returns (by simp) (hb hby at_216) hr
            · show Q0 Z p1 p2 p3 h0 n0 _ T784.heap _
              rw [eh784]
              exact ⟨rfl, N784⟩
          · skip
            have F790 : Arv Z T748.heap b_540 kb_540 .int (2 : Int32) [(.int l0), (.int l1)] (.int (0 : Int32)) := ((F735.ext E734).keep Kc748 (ninS ne725 nin0))
            have F791 : Arv Z T748.heap b_718 kb_718 .int (3 : Int32) [(.int k0), (.int k1), (.int k2)] (.int (0 : Int32)) := ((F737.ext E734).keep Kc748 (ninS ne726 nin0))
            have go792 : Go p e below s₁ F0 T778 (mkF m 203 #[vi p1, vi p2, vi p3, vi b, vi (2 : Int32), vi l0, vi l1, vi l2, vi (3 : Int32), vi k0, vi k1, vi k2, vr b_540, vr b_718, vr b723, vi (1 : Int32)] [(.ref b_718), (.ref b723)]) := by
              intro t_ k_
              refine go779 t_ ?_
              refine o_ifNo X778 hx (hb hby at_189) ((if0 _ _).trans (feq hc189_780).1) ?_
              refine o_iconst X778 hx (hb hby at_192) (v := 1) rfl ?_
              refine o_goto X778 hx (hb hby at_193) (pc' := 197) rfl (by decide) ?_
              refine o_istore X778 hx (hb hby at_197) (L' := #[vi p1, vi p2, vi p3, vi b, vi (2 : Int32), vi l0, vi l1, vi l2, vi (3 : Int32), vi k0, vi k1, vi k2, vr b_540, vr b_718, vr b723, vi (1 : Int32)]) rfl ?_
              refine o_aload X778 hx (hb hby at_199) rfl rfl ?_
              refine o_aload X778 hx (hb hby at_201) rfl rfl ?_
              exact k_
            have F794 : Exa Z T748.heap b723 c_0 := (F742.keep Kc748)
            obtain ⟨cq793, kq793, q793a, q793b, q793c⟩ := isOf hZ eh778 F794
            obtain ⟨_, _, ⟨T793, L793, k793, n793⟩, -, X793, ⟨Lc793, hQ793, l793, y793, z793⟩, st793⟩ := X778.virtualBack hx (y := y_4) (z := y_4) hown (mvT hZ (own_w hw 31 rfl)) (mvT hZ (own_w hw 32 rfl)) (notFace_of_selects (args := #[]) (mvT hZ (own_w hw 34 rfl))) (mvT hZ (own_w hw 34 rfl)) (mvT hZ (own_w hw 33 rfl)) (by decide) (backOf (W := 0) (rm6_2_3 l Z a0 hw [] b723 b_718 b_540 kb_540 kb_718 l0 l1 k0 k1 k2 (T748.heap) n0 Z749 F4_748 F790 F791 (own_s0 h_b h_k0 h_k1) (own_s1 h_b h_k0 h_k1 h_k2)) hZ (own_w hw 35 rfl) (own_w hw 7 rfl) (by decide) (by decide)) q793a q793c (g := (mkF m 203 #[vi p1, vi p2, vi p3, vi b, vi (2 : Int32), vi l0, vi l1, vi l2, vi (3 : Int32), vi k0, vi k1, vi k2, vr b_540, vr b_718, vr b723, vi (1 : Int32)] [(.ref b_718), (.ref b723)])) rfl (by rw [hml]; rfl) (Steps.refl _) (argsL := [(.ref b_718)]) (rest := []) (lenOf pd0_2 rfl) rfl (by show 2 * 0 + _ ≤ _; exact Nat.le_of_eq rfl) (hb hby at_203) (fun _ _ => ⟨rfl, eh778, (by decide : 4 + 0 ≤ _), (by decide : 9 + 0 ≤ _)⟩)
            dsimp only [Pt.U, Pt.locs, Pt.cells, Pt.slots] at X793 l793 y793 z793 st793 hQ793
            subst l793 y793 z793
            obtain ⟨rfl, Nq793, eh793⟩ := hQ793
            have N793 := Fr.app N778 Nq793
            have go795 : Go p e below s₁ F0 T793 (mkF m 206 #[vi p1, vi p2, vi p3, vi b, vi (2 : Int32), vi l0, vi l1, vi l2, vi (3 : Int32), vi k0, vi k1, vi k2, vr b_540, vr b_718, vr b723, vi (1 : Int32)] [(.int (f6_2_3 l0 l1 k0 k1 k2))]) := fun t_ k_ => go792 t_ (st793.trans k_)
            have go797 : Go p e below s₁ F0 T793 (mkF m 208 #[vi p1, vi p2, vi p3, vi b, vi (2 : Int32), vi l0, vi l1, vi l2, vi (3 : Int32), vi k0, vi k1, vi k2, vr b_540, vr b_718, vr b723, vi (1 : Int32)] [(.int (1 : Int32)), (.int (f6_2_3 l0 l1 k0 k1 k2))]) := by
              intro t_ k_
              refine go795 t_ ?_
              refine o_iload X793 hx (hb hby at_206) rfl ?_
              exact k_
            have hd796 : (f6_2_3 l0 l1 k0 k1 k2) = (1 : Int32) := own_yes_2_3 l0 l1 l2 k0 k1 k2 (own_s0 h_b h_l0 h_l1) (own_s0 h_b h_k0 h_k1) (own_s1 h_b h_k0 h_k1 h_k2) hc145_754 hc167_767 hc189_780
            have go798 : Go p e below s₁ F0 T793 (mkF m 216 #[vi p1, vi p2, vi p3, vi b, vi (2 : Int32), vi l0, vi l1, vi l2, vi (3 : Int32), vi k0, vi k1, vi k2, vr b_540, vr b_718, vr b723, vi (1 : Int32)] [(.int (1 : Int32))]) := by
              intro t_ k_
              refine go797 t_ ?_
              refine o_icmpNo X793 hx (hb hby at_208) (teq hd796).2 ?_
              refine o_iconst X793 hx (hb hby at_211) (v := 1) rfl ?_
              refine o_goto X793 hx (hb hby at_212) (pc' := 216) rfl (by decide) ?_
              exact k_
            obtain ⟨fs, hr, hrun, hended, hW, hsame⟩ := X793.leave (v := some (.int (1 : Int32))) (fun h => by rw [Bd.returns] at h; cases h)
            refine ⟨_, _, pre0 _ (go798 _ ?_), hrun, hended, _, _, rfl, ?_, ⟨_, rfl⟩, hW, hsame.mono (by decide) (by decide)⟩
            · skip
              exact retN X793 hx (t := .boolean) Bd.returns (by simp) (hb hby at_216) hr
            · show Q0 Z p1 p2 p3 h0 n0 _ T793.heap _
              rw [eh793]
              exact ⟨rfl, N793⟩
  · skip
    have go799 : Go p e below s₁ F0 s₁ (mkF m 82 #[vi p1, vi p2, vi p3, vi b, vi (3 : Int32), vi l0, vi l1, vi l2, vi (p3 &&& (3 : Int32)), vi k0, vi k1, vi k2, .unset, .unset, .unset, .unset] []) := by rw [hcs15] at go14; exact go14
    have go800 : Go p e below s₁ F0 s₁ (mkF m 90 #[vi p1, vi p2, vi p3, vi b, vi (3 : Int32), vi l0, vi l1, vi l2, vi (p3 &&& (3 : Int32)), vi k0, vi k1, vi k2, .unset, .unset, .unset, .unset] [(.int l2), (.int l1), (.int l0), (.int (3 : Int32))]) := by
      intro t_ k_
      refine go799 t_ ?_
      refine o_iload X0 hx (hb hby at_82) rfl ?_
      refine o_iload X0 hx (hb hby at_84) rfl ?_
      refine o_iload X0 hx (hb hby at_86) rfl ?_
      refine o_iload X0 hx (hb hby at_88) rfl ?_
      exact k_
    obtain ⟨_, _, ⟨T801, L801, k801, n801⟩, -, X801, ⟨Lc801, hQ801, l801, y801, z801⟩, st801⟩ := Jvm.LawKit.callS X0 hx (y := y_1) hown (mvT hZ (own_w hw 0 rfl)) (mvT hZ (own_w hw 1 rfl)) (mvT hZ (own_w hw 2 rfl)) (mvT hZ (own_w hw 3 rfl)) (by decide) (backOf (W := 0) (rm1_3 l Z a0 hw [] l0 l1 l2 h0 n0 Z0 ) hZ (own_w hw 3 rfl) (own_w hw 2 rfl) (by decide) (by decide)) (g := (mkF m 90 #[vi p1, vi p2, vi p3, vi b, vi (3 : Int32), vi l0, vi l1, vi l2, vi (p3 &&& (3 : Int32)), vi k0, vi k1, vi k2, .unset, .unset, .unset, .unset] [(.int l2), (.int l1), (.int l0), (.int (3 : Int32))])) rfl (by rw [hml]; rfl) (argsL := [(.int (3 : Int32)), (.int l0), (.int l1), (.int l2)]) (rest := []) (lenOf pd0_0 rfl) rfl (by show 2 * 0 + _ ≤ _; exact Nat.le_of_eq rfl) (hb hby at_90) (fun _ _ => ⟨rfl, e0, (by decide : 0 + 1 ≤ _), (by decide : 0 + 3 ≤ _)⟩)
    dsimp only [Pt.U, Pt.locs, Pt.cells, Pt.slots] at X801 l801 y801 z801 st801 hQ801
    subst l801 y801 z801
    obtain ⟨b_801, kb_801, rfl, Nq801, Kc801, hb_801, V_801⟩ := hQ801
    have N801 := Fr.app N0 Nq801
    have g_b_801 : n0 ≤ b_801 := Nat.le_trans Z0 hb_801
    have Z802 : n0 ≤ T801.heap.size := Nat.le_trans Z0 Kc801.1
    have go803 : Go p e below s₁ F0 T801 (mkF m 93 #[vi p1, vi p2, vi p3, vi b, vi (3 : Int32), vi l0, vi l1, vi l2, vi (p3 &&& (3 : Int32)), vi k0, vi k1, vi k2, .unset, .unset, .unset, .unset] [(.ref b_801)]) := fun t_ k_ => go800 t_ (st801 t_ k_)
    have go804 : Go p e below s₁ F0 T801 (mkF m 95 #[vi p1, vi p2, vi p3, vi b, vi (3 : Int32), vi l0, vi l1, vi l2, vi (p3 &&& (3 : Int32)), vi k0, vi k1, vi k2, vr b_801, .unset, .unset, .unset] []) := by
      intro t_ k_
      refine go803 t_ ?_
      refine o_astore X801 hx (hb hby at_93) rfl (L' := #[vi p1, vi p2, vi p3, vi b, vi (3 : Int32), vi l0, vi l1, vi l2, vi (p3 &&& (3 : Int32)), vi k0, vi k1, vi k2, vr b_801, .unset, .unset, .unset]) rfl ?_
      exact k_
    have hcs805 : (p3 &&& (3 : Int32)) = (0 : Int32) ∨ (p3 &&& (3 : Int32)) = (1 : Int32) ∨ (p3 &&& (3 : Int32)) = (2 : Int32) ∨ (p3 &&& (3 : Int32)) = (3 : Int32) := own_4 _
    rcases hcs805 with hcs805 | hcs805 | hcs805 | hcs805
    · skip
      have go806 : Go p e below s₁ F0 T801 (mkF m 95 #[vi p1, vi p2, vi p3, vi b, vi (3 : Int32), vi l0, vi l1, vi l2, vi (0 : Int32), vi k0, vi k1, vi k2, vr b_801, .unset, .unset, .unset] []) := by rw [hcs805] at go804; exact go804
      have go807 : Go p e below s₁ F0 T801 (mkF m 103 #[vi p1, vi p2, vi p3, vi b, vi (3 : Int32), vi l0, vi l1, vi l2, vi (0 : Int32), vi k0, vi k1, vi k2, vr b_801, .unset, .unset, .unset] [(.int k2), (.int k1), (.int k0), (.int (0 : Int32))]) := by
        intro t_ k_
        refine go806 t_ ?_
        refine o_iload X801 hx (hb hby at_95) rfl ?_
        refine o_iload X801 hx (hb hby at_97) rfl ?_
        refine o_iload X801 hx (hb hby at_99) rfl ?_
        refine o_iload X801 hx (hb hby at_101) rfl ?_
        exact k_
      obtain ⟨_, _, ⟨T808, L808, k808, n808⟩, -, X808, ⟨Lc808, hQ808, l808, y808, z808⟩, st808⟩ := Jvm.LawKit.callS X801 hx (y := y_1) hown (mvT hZ (own_w hw 0 rfl)) (mvT hZ (own_w hw 1 rfl)) (mvT hZ (own_w hw 2 rfl)) (mvT hZ (own_w hw 3 rfl)) (by decide) (backOf (W := 0) (rm1_0 l Z a0 hw [] k0 k1 k2 (T801.heap) n0 Z802 ) hZ (own_w hw 3 rfl) (own_w hw 2 rfl) (by decide) (by decide)) (g := (mkF m 103 #[vi p1, vi p2, vi p3, vi b, vi (3 : Int32), vi l0, vi l1, vi l2, vi (0 : Int32), vi k0, vi k1, vi k2, vr b_801, .unset, .unset, .unset] [(.int k2), (.int k1), (.int k0), (.int (0 : Int32))])) rfl (by rw [hml]; rfl) (argsL := [(.int (0 : Int32)), (.int k0), (.int k1), (.int k2)]) (rest := []) (lenOf pd0_0 rfl) rfl (by show 2 * 0 + _ ≤ _; exact Nat.le_of_eq rfl) (hb hby at_103) (fun _ _ => ⟨rfl, rfl, (by decide : 1 + 1 ≤ _), (by decide : 3 + 0 ≤ _)⟩)
      dsimp only [Pt.U, Pt.locs, Pt.cells, Pt.slots] at X808 l808 y808 z808 st808 hQ808
      subst l808 y808 z808
      obtain ⟨b_808, kb_808, rfl, Nq808, Kc808, hb_808, V_808⟩ := hQ808
      have N808 := Fr.app N801 Nq808
      have ne809 : b_801 ≠ b_808 := Nat.ne_of_lt (Nat.lt_of_lt_of_le V_801.lt hb_808)
      have g_b_808 : n0 ≤ b_808 := Nat.le_trans Z802 hb_808
      have Z810 : n0 ≤ T808.heap.size := Nat.le_trans Z802 Kc808.1
      have go811 : Go p e below s₁ F0 T808 (mkF m 106 #[vi p1, vi p2, vi p3, vi b, vi (3 : Int32), vi l0, vi l1, vi l2, vi (0 : Int32), vi k0, vi k1, vi k2, vr b_801, .unset, .unset, .unset] [(.ref b_808)]) := fun t_ k_ => go807 t_ (st808 t_ k_)
      have go812 : Go p e below s₁ F0 T808 (mkF m 108 #[vi p1, vi p2, vi p3, vi b, vi (3 : Int32), vi l0, vi l1, vi l2, vi (0 : Int32), vi k0, vi k1, vi k2, vr b_801, vr b_808, .unset, .unset] []) := by
        intro t_ k_
        refine go811 t_ ?_
        refine o_astore X808 hx (hb hby at_106) rfl (L' := #[vi p1, vi p2, vi p3, vi b, vi (3 : Int32), vi l0, vi l1, vi l2, vi (0 : Int32), vi k0, vi k1, vi k2, vr b_801, vr b_808, .unset, .unset]) rfl ?_
        exact k_
      obtain ⟨T813, h813, X813, e813, E813, A813, D813, -, st813⟩ := newO X808 hx hZ hown (own_w hw 5 rfl) (own_w hw 6 rfl) (own_w hw 7 rfl) rfl (g := (mkF m 108 #[vi p1, vi p2, vi p3, vi b, vi (3 : Int32), vi l0, vi l1, vi l2, vi (0 : Int32), vi k0, vi k1, vi k2, vr b_801, vr b_808, .unset, .unset] [])) rfl (hb hby at_108) (by decide) (by decide)
      obtain ⟨b813, gz813⟩ : ∃ z, z = T808.heap.size := ⟨_, rfl⟩
      rw [← gz813] at A813 D813 st813
      have F814 : Arv Z T808.heap b_801 kb_801 .int (3 : Int32) [(.int l0), (.int l1), (.int l2)] (.int (0 : Int32)) := (V_801.keep Kc808 nin0)
      have ne815 : b_801 ≠ b813 := Nat.ne_of_lt (Nat.lt_of_lt_of_le F814.lt (Nat.le_of_eq gz813.symm))
      have ne816 : b_808 ≠ b813 := Nat.ne_of_lt (Nat.lt_of_lt_of_le V_808.lt (Nat.le_of_eq gz813.symm))
      have g_b813 : n0 ≤ b813 := Nat.le_trans Z810 (Nat.le_of_eq gz813.symm)
      have Z817 : n0 ≤ h813.size := Nat.le_trans Z810 E813.1
      have F818 : Fld Z h813 b813 c_0 "id" "J" (.long (0 : Int64)) := D813 (Or.inr (own_w hw 21 rfl)) (ty := .long) (by decide)
      have F819 : Fld Z h813 b813 c_0 "power" "J" (.long (0 : Int64)) := D813 (Or.inr (own_w hw 23 rfl)) (ty := .long) (by decide)
      have F820 : Fld Z h813 b813 c_0 "units" "[I" .null := D813 (Or.inr (own_w hw 25 rfl)) (ty := (.array .int)) (by decide)
      have F821 : Fld Z h813 b813 c_0 "licences" "[I" .null := D813 (Or.inr (own_w hw 27 rfl)) (ty := (.array .int)) (by decide)
      have go822 : Go p e below s₁ F0 T813 (mkF m 111 #[vi p1, vi p2, vi p3, vi b, vi (3 : Int32), vi l0, vi l1, vi l2, vi (0 : Int32), vi k0, vi k1, vi k2, vr b_801, vr b_808, .unset, .unset] [(.ref b813)]) := fun t_ k_ => go812 t_ (st813 t_ k_)
      have go823 : Go p e below s₁ F0 T813 (mkF m 117 #[vi p1, vi p2, vi p3, vi b, vi (3 : Int32), vi l0, vi l1, vi l2, vi (0 : Int32), vi k0, vi k1, vi k2, vr b_801, vr b_808, .unset, .unset] [(.int (0 : Int32)), (.long (1000000 : Int64)), (.long (0 : Int64)), (.ref b813), (.ref b813)]) := by
        intro t_ k_
        refine go822 t_ ?_
        refine o_dup X813 hx (hb hby at_111) rfl ?_
        refine o_lconst X813 hx (hb hby at_112) (v := 0) rfl ?_
        refine o_ldc2 X813 hx hown (mvT hZ (own_w hw 8 rfl)) (hb hby at_113) ?_
        refine o_iconst X813 hx (hb hby at_116) (v := 0) rfl ?_
        exact k_
      obtain ⟨T824, h824, k824, X824, e824, E824, A824, st824⟩ := newP X813 hx hZ (own_w hw 4 rfl) e813 (g := (mkF m 117 #[vi p1, vi p2, vi p3, vi b, vi (3 : Int32), vi l0, vi l1, vi l2, vi (0 : Int32), vi k0, vi k1, vi k2, vr b_801, vr b_808, .unset, .unset] [(.int (0 : Int32)), (.long (1000000 : Int64)), (.long (0 : Int64)), (.ref b813), (.ref b813)])) rfl (hb hby at_117) rfl (by decide) (cap := 0) (by decide) (by decide) (by decide) (by decide)
      obtain ⟨b824, gz824⟩ : ∃ z, z = h813.size := ⟨_, rfl⟩
      rw [← gz824] at A824 st824
      have F825 : Arv Z h813 b_801 kb_801 .int (3 : Int32) [(.int l0), (.int l1), (.int l2)] (.int (0 : Int32)) := (F814.ext E813)
      have ne826 : b_801 ≠ b824 := Nat.ne_of_lt (Nat.lt_of_lt_of_le F825.lt (Nat.le_of_eq gz824.symm))
      have F827 : Arv Z h813 b_808 kb_808 .int (0 : Int32) [] (.int (0 : Int32)) := (V_808.ext E813)
      have ne828 : b_808 ≠ b824 := Nat.ne_of_lt (Nat.lt_of_lt_of_le F827.lt (Nat.le_of_eq gz824.symm))
      have ne829 : b813 ≠ b824 := Nat.ne_of_lt (Nat.lt_of_lt_of_le A813.lt (Nat.le_of_eq gz824.symm))
      have g_b824 : n0 ≤ b824 := Nat.le_trans Z817 (Nat.le_of_eq gz824.symm)
      have Z830 : n0 ≤ h824.size := Nat.le_trans Z817 E824.1
      have V824 : Arv Z h824 b824 k824 .int (0 : Int32) [] (.int (0 : Int32)) := (Arv.new A824 (by decide)).pad (pad_rep [] (.int (0 : Int32)) 0)
      have go831 : Go p e below s₁ F0 T824 (mkF m 119 #[vi p1, vi p2, vi p3, vi b, vi (3 : Int32), vi l0, vi l1, vi l2, vi (0 : Int32), vi k0, vi k1, vi k2, vr b_801, vr b_808, .unset, .unset] [(.ref b824), (.long (1000000 : Int64)), (.long (0 : Int64)), (.ref b813), (.ref b813)]) := fun t_ k_ => go823 t_ (st824 t_ k_)
      have F832 : Exa Z h824 b813 c_0 := (A813.ext E824)
      have F833 : Fld Z h824 b813 c_0 "id" "J" (.long (0 : Int64)) := (F818.ext E824)
      have F834 : Fld Z h824 b813 c_0 "power" "J" (.long (0 : Int64)) := (F819.ext E824)
      have F835 : Fld Z h824 b813 c_0 "units" "[I" .null := (F820.ext E824)
      have F836 : Fld Z h824 b813 c_0 "licences" "[I" .null := (F821.ext E824)
      have go837 : Go p e below s₁ F0 T824 (mkF m 121 #[vi p1, vi p2, vi p3, vi b, vi (3 : Int32), vi l0, vi l1, vi l2, vi (0 : Int32), vi k0, vi k1, vi k2, vr b_801, vr b_808, .unset, .unset] [(.ref b_801), (.ref b824), (.long (1000000 : Int64)), (.long (0 : Int64)), (.ref b813), (.ref b813)]) := by
        intro t_ k_
        refine go831 t_ ?_
        refine o_aload X824 hx (hb hby at_119) rfl rfl ?_
        exact k_
      obtain ⟨_, _, ⟨T838, L838, k838, n838⟩, -, X838, ⟨Lc838, hQ838, l838, y838, z838⟩, st838⟩ := X824.specialBack hx (y := y_2) rfl hown (mvT hZ (own_w hw 9 rfl)) (mvT hZ (own_w hw 10 rfl)) (mvT hZ (own_w hw 11 rfl)) (by decide) (backOf (W := 1) (rm2 l Z a0 hw [] b813 (0 : Int64) (1000000 : Int64) b824 b_801 h824 n0 Z830 F832 F833 F834 F835 F836 g_b813) hZ (own_w hw 11 rfl) (own_w hw 7 rfl) (by decide) (by decide)) (g := (mkF m 121 #[vi p1, vi p2, vi p3, vi b, vi (3 : Int32), vi l0, vi l1, vi l2, vi (0 : Int32), vi k0, vi k1, vi k2, vr b_801, vr b_808, .unset, .unset] [(.ref b_801), (.ref b824), (.long (1000000 : Int64)), (.long (0 : Int64)), (.ref b813), (.ref b813)])) rfl (by rw [hml]; rfl) (Steps.refl _) (a := b813) (argsL := [(.long (0 : Int64)), (.long (1000000 : Int64)), (.ref b824), (.ref b_801)]) (rest := [(.ref b813)]) (lenOf pd0_1 rfl) rfl (by show 2 * 0 + _ ≤ _; exact Nat.le_of_eq rfl) (hb hby at_121) (fun _ _ => ⟨rfl, e824, (by decide : 4 + 0 ≤ _), (by decide : 7 + 0 ≤ _)⟩)
      dsimp only [Pt.U, Pt.locs, Pt.cells, Pt.slots] at X838 l838 y838 z838 st838 hQ838
      subst l838 y838 z838
      obtain ⟨rfl, Nq838, Kc838, F4_838⟩ := hQ838
      have N838 := Fr.app N808 Nq838
      have Z839 : n0 ≤ T838.heap.size := Nat.le_trans Z830 Kc838.1
      have go840 : Go p e below s₁ F0 T838 (mkF m 124 #[vi p1, vi p2, vi p3, vi b, vi (3 : Int32), vi l0, vi l1, vi l2, vi (0 : Int32), vi k0, vi k1, vi k2, vr b_801, vr b_808, .unset, .unset] [(.ref b813)]) := fun t_ k_ => go837 t_ (st838.trans k_)
      have F841 : Arv Z T838.heap b_801 kb_801 .int (3 : Int32) [(.int l0), (.int l1), (.int l2)] (.int (0 : Int32)) := ((F825.ext E824).keep Kc838 (ninS ne815 nin0))
      have F842 : Arv Z T838.heap b_808 kb_808 .int (0 : Int32) [] (.int (0 : Int32)) := ((F827.ext E824).keep Kc838 (ninS ne816 nin0))
      have go843 : Go p e below s₁ F0 T838 (mkF m 203 #[vi p1, vi p2, vi p3, vi b, vi (3 : Int32), vi l0, vi l1, vi l2, vi (0 : Int32), vi k0, vi k1, vi k2, vr b_801, vr b_808, vr b813, vi (1 : Int32)] [(.ref b_808), (.ref b813)]) := by
        intro t_ k_
        refine go840 t_ ?_
        refine o_astore X838 hx (hb hby at_124) rfl (L' := #[vi p1, vi p2, vi p3, vi b, vi (3 : Int32), vi l0, vi l1, vi l2, vi (0 : Int32), vi k0, vi k1, vi k2, vr b_801, vr b_808, vr b813, .unset]) rfl ?_
        refine o_iload X838 hx (hb hby at_126) rfl ?_
        refine o_iconst X838 hx (hb hby at_128) (v := 1) rfl ?_
        refine o_icmpYes X838 hx (hb hby at_129) (pc' := 148) rfl (by decide) (tlt (by decide : (0 : Int32) < (1 : Int32))).1 ?_
        refine o_iload X838 hx (hb hby at_148) rfl ?_
        refine o_iconst X838 hx (hb hby at_150) (v := 2) rfl ?_
        refine o_icmpYes X838 hx (hb hby at_151) (pc' := 170) rfl (by decide) (tlt (by decide : (0 : Int32) < (2 : Int32))).1 ?_
        refine o_iload X838 hx (hb hby at_170) rfl ?_
        refine o_iconst X838 hx (hb hby at_172) (v := 3) rfl ?_
        refine o_icmpYes X838 hx (hb hby at_173) (pc' := 192) rfl (by decide) (tlt (by decide : (0 : Int32) < (3 : Int32))).1 ?_
        refine o_iconst X838 hx (hb hby at_192) (v := 1) rfl ?_
        refine o_goto X838 hx (hb hby at_193) (pc' := 197) rfl (by decide) ?_
        refine o_istore X838 hx (hb hby at_197) (L' := #[vi p1, vi p2, vi p3, vi b, vi (3 : Int32), vi l0, vi l1, vi l2, vi (0 : Int32), vi k0, vi k1, vi k2, vr b_801, vr b_808, vr b813, vi (1 : Int32)]) rfl ?_
        refine o_aload X838 hx (hb hby at_199) rfl rfl ?_
        refine o_aload X838 hx (hb hby at_201) rfl rfl ?_
        exact k_
      have F845 : Exa Z T838.heap b813 c_0 := (F832.keep Kc838)
      obtain ⟨cq844, kq844, q844a, q844b, q844c⟩ := isOf hZ rfl F845
      obtain ⟨_, _, ⟨T844, L844, k844, n844⟩, -, X844, ⟨Lc844, hQ844, l844, y844, z844⟩, st844⟩ := X838.virtualBack hx (y := y_4) (z := y_4) hown (mvT hZ (own_w hw 31 rfl)) (mvT hZ (own_w hw 32 rfl)) (notFace_of_selects (args := #[]) (mvT hZ (own_w hw 34 rfl))) (mvT hZ (own_w hw 34 rfl)) (mvT hZ (own_w hw 33 rfl)) (by decide) (backOf (W := 0) (rm6_3_0 l Z a0 hw [] b813 b_808 b_801 kb_801 kb_808 l0 l1 l2 (T838.heap) n0 Z839 F4_838 F841 F842) hZ (own_w hw 35 rfl) (own_w hw 7 rfl) (by decide) (by decide)) q844a q844c (g := (mkF m 203 #[vi p1, vi p2, vi p3, vi b, vi (3 : Int32), vi l0, vi l1, vi l2, vi (0 : Int32), vi k0, vi k1, vi k2, vr b_801, vr b_808, vr b813, vi (1 : Int32)] [(.ref b_808), (.ref b813)])) rfl (by rw [hml]; rfl) (Steps.refl _) (argsL := [(.ref b_808)]) (rest := []) (lenOf pd0_2 rfl) rfl (by show 2 * 0 + _ ≤ _; exact Nat.le_of_eq rfl) (hb hby at_203) (fun _ _ => ⟨rfl, rfl, (by decide : 4 + 0 ≤ _), (by decide : 7 + 0 ≤ _)⟩)
      dsimp only [Pt.U, Pt.locs, Pt.cells, Pt.slots] at X844 l844 y844 z844 st844 hQ844
      subst l844 y844 z844
      obtain ⟨rfl, Nq844, eh844⟩ := hQ844
      have N844 := Fr.app N838 Nq844
      have go846 : Go p e below s₁ F0 T844 (mkF m 206 #[vi p1, vi p2, vi p3, vi b, vi (3 : Int32), vi l0, vi l1, vi l2, vi (0 : Int32), vi k0, vi k1, vi k2, vr b_801, vr b_808, vr b813, vi (1 : Int32)] [(.int (f6_3_0 l0 l1 l2))]) := fun t_ k_ => go843 t_ (st844.trans k_)
      have go848 : Go p e below s₁ F0 T844 (mkF m 208 #[vi p1, vi p2, vi p3, vi b, vi (3 : Int32), vi l0, vi l1, vi l2, vi (0 : Int32), vi k0, vi k1, vi k2, vr b_801, vr b_808, vr b813, vi (1 : Int32)] [(.int (1 : Int32)), (.int (f6_3_0 l0 l1 l2))]) := by
        intro t_ k_
        refine go846 t_ ?_
        refine o_iload X844 hx (hb hby at_206) rfl ?_
        exact k_
      have hd847 : (f6_3_0 l0 l1 l2) = (1 : Int32) := own_yes_3_0 l0 l1 l2 k0 k1 k2 (own_s0 h_b h_l0 h_l1) (own_s1 h_b h_l0 h_l1 h_l2) 
      have go849 : Go p e below s₁ F0 T844 (mkF m 216 #[vi p1, vi p2, vi p3, vi b, vi (3 : Int32), vi l0, vi l1, vi l2, vi (0 : Int32), vi k0, vi k1, vi k2, vr b_801, vr b_808, vr b813, vi (1 : Int32)] [(.int (1 : Int32))]) := by
        intro t_ k_
        refine go848 t_ ?_
        refine o_icmpNo X844 hx (hb hby at_208) (teq hd847).2 ?_
        refine o_iconst X844 hx (hb hby at_211) (v := 1) rfl ?_
        refine o_goto X844 hx (hb hby at_212) (pc' := 216) rfl (by decide) ?_
        exact k_
      obtain ⟨fs, hr, hrun, hended, hW, hsame⟩ := X844.leave (v := some (.int (1 : Int32))) (fun h => by rw [Bd.returns] at h; cases h)
      refine ⟨_, _, pre0 _ (go849 _ ?_), hrun, hended, _, _, rfl, ?_, ⟨_, rfl⟩, hW, hsame.mono (by decide) (by decide)⟩
      · skip
        exact retN X844 hx (t := .boolean) Bd.returns (by simp) (hb hby at_216) hr
      · show Q0 Z p1 p2 p3 h0 n0 _ T844.heap _
        rw [eh844]
        exact ⟨rfl, N844⟩
    · skip
      have go850 : Go p e below s₁ F0 T801 (mkF m 95 #[vi p1, vi p2, vi p3, vi b, vi (3 : Int32), vi l0, vi l1, vi l2, vi (1 : Int32), vi k0, vi k1, vi k2, vr b_801, .unset, .unset, .unset] []) := by rw [hcs805] at go804; exact go804
      have go851 : Go p e below s₁ F0 T801 (mkF m 103 #[vi p1, vi p2, vi p3, vi b, vi (3 : Int32), vi l0, vi l1, vi l2, vi (1 : Int32), vi k0, vi k1, vi k2, vr b_801, .unset, .unset, .unset] [(.int k2), (.int k1), (.int k0), (.int (1 : Int32))]) := by
        intro t_ k_
        refine go850 t_ ?_
        refine o_iload X801 hx (hb hby at_95) rfl ?_
        refine o_iload X801 hx (hb hby at_97) rfl ?_
        refine o_iload X801 hx (hb hby at_99) rfl ?_
        refine o_iload X801 hx (hb hby at_101) rfl ?_
        exact k_
      obtain ⟨_, _, ⟨T852, L852, k852, n852⟩, -, X852, ⟨Lc852, hQ852, l852, y852, z852⟩, st852⟩ := Jvm.LawKit.callS X801 hx (y := y_1) hown (mvT hZ (own_w hw 0 rfl)) (mvT hZ (own_w hw 1 rfl)) (mvT hZ (own_w hw 2 rfl)) (mvT hZ (own_w hw 3 rfl)) (by decide) (backOf (W := 0) (rm1_1 l Z a0 hw [] k0 k1 k2 (T801.heap) n0 Z802 ) hZ (own_w hw 3 rfl) (own_w hw 2 rfl) (by decide) (by decide)) (g := (mkF m 103 #[vi p1, vi p2, vi p3, vi b, vi (3 : Int32), vi l0, vi l1, vi l2, vi (1 : Int32), vi k0, vi k1, vi k2, vr b_801, .unset, .unset, .unset] [(.int k2), (.int k1), (.int k0), (.int (1 : Int32))])) rfl (by rw [hml]; rfl) (argsL := [(.int (1 : Int32)), (.int k0), (.int k1), (.int k2)]) (rest := []) (lenOf pd0_0 rfl) rfl (by show 2 * 0 + _ ≤ _; exact Nat.le_of_eq rfl) (hb hby at_103) (fun _ _ => ⟨rfl, rfl, (by decide : 1 + 1 ≤ _), (by decide : 3 + 1 ≤ _)⟩)
      dsimp only [Pt.U, Pt.locs, Pt.cells, Pt.slots] at X852 l852 y852 z852 st852 hQ852
      subst l852 y852 z852
      obtain ⟨b_852, kb_852, rfl, Nq852, Kc852, hb_852, V_852⟩ := hQ852
      have N852 := Fr.app N801 Nq852
      have ne853 : b_801 ≠ b_852 := Nat.ne_of_lt (Nat.lt_of_lt_of_le V_801.lt hb_852)
      have g_b_852 : n0 ≤ b_852 := Nat.le_trans Z802 hb_852
      have Z854 : n0 ≤ T852.heap.size := Nat.le_trans Z802 Kc852.1
      have go855 : Go p e below s₁ F0 T852 (mkF m 106 #[vi p1, vi p2, vi p3, vi b, vi (3 : Int32), vi l0, vi l1, vi l2, vi (1 : Int32), vi k0, vi k1, vi k2, vr b_801, .unset, .unset, .unset] [(.ref b_852)]) := fun t_ k_ => go851 t_ (st852 t_ k_)
      have go856 : Go p e below s₁ F0 T852 (mkF m 108 #[vi p1, vi p2, vi p3, vi b, vi (3 : Int32), vi l0, vi l1, vi l2, vi (1 : Int32), vi k0, vi k1, vi k2, vr b_801, vr b_852, .unset, .unset] []) := by
        intro t_ k_
        refine go855 t_ ?_
        refine o_astore X852 hx (hb hby at_106) rfl (L' := #[vi p1, vi p2, vi p3, vi b, vi (3 : Int32), vi l0, vi l1, vi l2, vi (1 : Int32), vi k0, vi k1, vi k2, vr b_801, vr b_852, .unset, .unset]) rfl ?_
        exact k_
      obtain ⟨T857, h857, X857, e857, E857, A857, D857, -, st857⟩ := newO X852 hx hZ hown (own_w hw 5 rfl) (own_w hw 6 rfl) (own_w hw 7 rfl) rfl (g := (mkF m 108 #[vi p1, vi p2, vi p3, vi b, vi (3 : Int32), vi l0, vi l1, vi l2, vi (1 : Int32), vi k0, vi k1, vi k2, vr b_801, vr b_852, .unset, .unset] [])) rfl (hb hby at_108) (by decide) (by decide)
      obtain ⟨b857, gz857⟩ : ∃ z, z = T852.heap.size := ⟨_, rfl⟩
      rw [← gz857] at A857 D857 st857
      have F858 : Arv Z T852.heap b_801 kb_801 .int (3 : Int32) [(.int l0), (.int l1), (.int l2)] (.int (0 : Int32)) := (V_801.keep Kc852 nin0)
      have ne859 : b_801 ≠ b857 := Nat.ne_of_lt (Nat.lt_of_lt_of_le F858.lt (Nat.le_of_eq gz857.symm))
      have ne860 : b_852 ≠ b857 := Nat.ne_of_lt (Nat.lt_of_lt_of_le V_852.lt (Nat.le_of_eq gz857.symm))
      have g_b857 : n0 ≤ b857 := Nat.le_trans Z854 (Nat.le_of_eq gz857.symm)
      have Z861 : n0 ≤ h857.size := Nat.le_trans Z854 E857.1
      have F862 : Fld Z h857 b857 c_0 "id" "J" (.long (0 : Int64)) := D857 (Or.inr (own_w hw 21 rfl)) (ty := .long) (by decide)
      have F863 : Fld Z h857 b857 c_0 "power" "J" (.long (0 : Int64)) := D857 (Or.inr (own_w hw 23 rfl)) (ty := .long) (by decide)
      have F864 : Fld Z h857 b857 c_0 "units" "[I" .null := D857 (Or.inr (own_w hw 25 rfl)) (ty := (.array .int)) (by decide)
      have F865 : Fld Z h857 b857 c_0 "licences" "[I" .null := D857 (Or.inr (own_w hw 27 rfl)) (ty := (.array .int)) (by decide)
      have go866 : Go p e below s₁ F0 T857 (mkF m 111 #[vi p1, vi p2, vi p3, vi b, vi (3 : Int32), vi l0, vi l1, vi l2, vi (1 : Int32), vi k0, vi k1, vi k2, vr b_801, vr b_852, .unset, .unset] [(.ref b857)]) := fun t_ k_ => go856 t_ (st857 t_ k_)
      have go867 : Go p e below s₁ F0 T857 (mkF m 117 #[vi p1, vi p2, vi p3, vi b, vi (3 : Int32), vi l0, vi l1, vi l2, vi (1 : Int32), vi k0, vi k1, vi k2, vr b_801, vr b_852, .unset, .unset] [(.int (0 : Int32)), (.long (1000000 : Int64)), (.long (0 : Int64)), (.ref b857), (.ref b857)]) := by
        intro t_ k_
        refine go866 t_ ?_
        refine o_dup X857 hx (hb hby at_111) rfl ?_
        refine o_lconst X857 hx (hb hby at_112) (v := 0) rfl ?_
        refine o_ldc2 X857 hx hown (mvT hZ (own_w hw 8 rfl)) (hb hby at_113) ?_
        refine o_iconst X857 hx (hb hby at_116) (v := 0) rfl ?_
        exact k_
      obtain ⟨T868, h868, k868, X868, e868, E868, A868, st868⟩ := newP X857 hx hZ (own_w hw 4 rfl) e857 (g := (mkF m 117 #[vi p1, vi p2, vi p3, vi b, vi (3 : Int32), vi l0, vi l1, vi l2, vi (1 : Int32), vi k0, vi k1, vi k2, vr b_801, vr b_852, .unset, .unset] [(.int (0 : Int32)), (.long (1000000 : Int64)), (.long (0 : Int64)), (.ref b857), (.ref b857)])) rfl (hb hby at_117) rfl (by decide) (cap := 0) (by decide) (by decide) (by decide) (by decide)
      obtain ⟨b868, gz868⟩ : ∃ z, z = h857.size := ⟨_, rfl⟩
      rw [← gz868] at A868 st868
      have F869 : Arv Z h857 b_801 kb_801 .int (3 : Int32) [(.int l0), (.int l1), (.int l2)] (.int (0 : Int32)) := (F858.ext E857)
      have ne870 : b_801 ≠ b868 := Nat.ne_of_lt (Nat.lt_of_lt_of_le F869.lt (Nat.le_of_eq gz868.symm))
      have F871 : Arv Z h857 b_852 kb_852 .int (1 : Int32) [(.int k0)] (.int (0 : Int32)) := (V_852.ext E857)
      have ne872 : b_852 ≠ b868 := Nat.ne_of_lt (Nat.lt_of_lt_of_le F871.lt (Nat.le_of_eq gz868.symm))
      have ne873 : b857 ≠ b868 := Nat.ne_of_lt (Nat.lt_of_lt_of_le A857.lt (Nat.le_of_eq gz868.symm))
      have g_b868 : n0 ≤ b868 := Nat.le_trans Z861 (Nat.le_of_eq gz868.symm)
      have Z874 : n0 ≤ h868.size := Nat.le_trans Z861 E868.1
      have V868 : Arv Z h868 b868 k868 .int (0 : Int32) [] (.int (0 : Int32)) := (Arv.new A868 (by decide)).pad (pad_rep [] (.int (0 : Int32)) 0)
      have go875 : Go p e below s₁ F0 T868 (mkF m 119 #[vi p1, vi p2, vi p3, vi b, vi (3 : Int32), vi l0, vi l1, vi l2, vi (1 : Int32), vi k0, vi k1, vi k2, vr b_801, vr b_852, .unset, .unset] [(.ref b868), (.long (1000000 : Int64)), (.long (0 : Int64)), (.ref b857), (.ref b857)]) := fun t_ k_ => go867 t_ (st868 t_ k_)
      have F876 : Exa Z h868 b857 c_0 := (A857.ext E868)
      have F877 : Fld Z h868 b857 c_0 "id" "J" (.long (0 : Int64)) := (F862.ext E868)
      have F878 : Fld Z h868 b857 c_0 "power" "J" (.long (0 : Int64)) := (F863.ext E868)
      have F879 : Fld Z h868 b857 c_0 "units" "[I" .null := (F864.ext E868)
      have F880 : Fld Z h868 b857 c_0 "licences" "[I" .null := (F865.ext E868)
      have go881 : Go p e below s₁ F0 T868 (mkF m 121 #[vi p1, vi p2, vi p3, vi b, vi (3 : Int32), vi l0, vi l1, vi l2, vi (1 : Int32), vi k0, vi k1, vi k2, vr b_801, vr b_852, .unset, .unset] [(.ref b_801), (.ref b868), (.long (1000000 : Int64)), (.long (0 : Int64)), (.ref b857), (.ref b857)]) := by
        intro t_ k_
        refine go875 t_ ?_
        refine o_aload X868 hx (hb hby at_119) rfl rfl ?_
        exact k_
      obtain ⟨_, _, ⟨T882, L882, k882, n882⟩, -, X882, ⟨Lc882, hQ882, l882, y882, z882⟩, st882⟩ := X868.specialBack hx (y := y_2) rfl hown (mvT hZ (own_w hw 9 rfl)) (mvT hZ (own_w hw 10 rfl)) (mvT hZ (own_w hw 11 rfl)) (by decide) (backOf (W := 1) (rm2 l Z a0 hw [] b857 (0 : Int64) (1000000 : Int64) b868 b_801 h868 n0 Z874 F876 F877 F878 F879 F880 g_b857) hZ (own_w hw 11 rfl) (own_w hw 7 rfl) (by decide) (by decide)) (g := (mkF m 121 #[vi p1, vi p2, vi p3, vi b, vi (3 : Int32), vi l0, vi l1, vi l2, vi (1 : Int32), vi k0, vi k1, vi k2, vr b_801, vr b_852, .unset, .unset] [(.ref b_801), (.ref b868), (.long (1000000 : Int64)), (.long (0 : Int64)), (.ref b857), (.ref b857)])) rfl (by rw [hml]; rfl) (Steps.refl _) (a := b857) (argsL := [(.long (0 : Int64)), (.long (1000000 : Int64)), (.ref b868), (.ref b_801)]) (rest := [(.ref b857)]) (lenOf pd0_1 rfl) rfl (by show 2 * 0 + _ ≤ _; exact Nat.le_of_eq rfl) (hb hby at_121) (fun _ _ => ⟨rfl, e868, (by decide : 4 + 0 ≤ _), (by decide : 8 + 0 ≤ _)⟩)
      dsimp only [Pt.U, Pt.locs, Pt.cells, Pt.slots] at X882 l882 y882 z882 st882 hQ882
      subst l882 y882 z882
      obtain ⟨rfl, Nq882, Kc882, F4_882⟩ := hQ882
      have N882 := Fr.app N852 Nq882
      have Z883 : n0 ≤ T882.heap.size := Nat.le_trans Z874 Kc882.1
      have go884 : Go p e below s₁ F0 T882 (mkF m 124 #[vi p1, vi p2, vi p3, vi b, vi (3 : Int32), vi l0, vi l1, vi l2, vi (1 : Int32), vi k0, vi k1, vi k2, vr b_801, vr b_852, .unset, .unset] [(.ref b857)]) := fun t_ k_ => go881 t_ (st882.trans k_)
      have go885 : Go p e below s₁ F0 T882 (mkF m 142 #[vi p1, vi p2, vi p3, vi b, vi (3 : Int32), vi l0, vi l1, vi l2, vi (1 : Int32), vi k0, vi k1, vi k2, vr b_801, vr b_852, vr b857, .unset] [(.int k0), (.int l2), (.int l1), (.int l0), (.int (3 : Int32))]) := by
        intro t_ k_
        refine go884 t_ ?_
        refine o_astore X882 hx (hb hby at_124) rfl (L' := #[vi p1, vi p2, vi p3, vi b, vi (3 : Int32), vi l0, vi l1, vi l2, vi (1 : Int32), vi k0, vi k1, vi k2, vr b_801, vr b_852, vr b857, .unset]) rfl ?_
        refine o_iload X882 hx (hb hby at_126) rfl ?_
        refine o_iconst X882 hx (hb hby at_128) (v := 1) rfl ?_
        refine o_icmpNo X882 hx (hb hby at_129) (flt (by decide : ¬ ((1 : Int32) < (1 : Int32)))).1 ?_
        refine o_iload X882 hx (hb hby at_132) rfl ?_
        refine o_iload X882 hx (hb hby at_134) rfl ?_
        refine o_iload X882 hx (hb hby at_136) rfl ?_
        refine o_iload X882 hx (hb hby at_138) rfl ?_
        refine o_iload X882 hx (hb hby at_140) rfl ?_
        exact k_
      obtain ⟨_, _, ⟨T886, L886, k886, n886⟩, -, X886, ⟨Lc886, hQ886, l886, y886, z886⟩, st886⟩ := Jvm.LawKit.callS X882 hx (y := y_3) hown (mvT hZ (own_w hw 28 rfl)) (mvT hZ (own_w hw 29 rfl)) (mvT hZ (own_w hw 2 rfl)) (mvT hZ (own_w hw 30 rfl)) (by decide) (backOf (W := 0) (rm5_3 l Z a0 hw [] l0 l1 l2 k0 (T882.heap) n0 Z883 ) hZ (own_w hw 30 rfl) (own_w hw 2 rfl) (by decide) (by decide)) (g := (mkF m 142 #[vi p1, vi p2, vi p3, vi b, vi (3 : Int32), vi l0, vi l1, vi l2, vi (1 : Int32), vi k0, vi k1, vi k2, vr b_801, vr b_852, vr b857, .unset] [(.int k0), (.int l2), (.int l1), (.int l0), (.int (3 : Int32))])) rfl (by rw [hml]; rfl) (argsL := [(.int (3 : Int32)), (.int l0), (.int l1), (.int l2), (.int k0)]) (rest := []) (lenOf pd0_3 rfl) rfl (by show 2 * 0 + _ ≤ _; exact Nat.le_of_eq rfl) (hb hby at_142) (fun _ _ => ⟨rfl, rfl, (by decide : 4 + 0 ≤ _), (by decide : 8 + 0 ≤ _)⟩)
      dsimp only [Pt.U, Pt.locs, Pt.cells, Pt.slots] at X886 l886 y886 z886 st886 hQ886
      subst l886 y886 z886
      obtain ⟨rfl, Nq886, eh886⟩ := hQ886
      have N886 := Fr.app N882 Nq886
      have go887 : Go p e below s₁ F0 T886 (mkF m 145 #[vi p1, vi p2, vi p3, vi b, vi (3 : Int32), vi l0, vi l1, vi l2, vi (1 : Int32), vi k0, vi k1, vi k2, vr b_801, vr b_852, vr b857, .unset] [(.int (f5_3 l0 l1 l2 k0))]) := fun t_ k_ => go885 t_ (st886 t_ k_)
      by_cases hc145_888 : (f5_3 l0 l1 l2 k0) = (0 : Int32)
      · skip
        have F889 : Arv Z T882.heap b_801 kb_801 .int (3 : Int32) [(.int l0), (.int l1), (.int l2)] (.int (0 : Int32)) := ((F869.ext E868).keep Kc882 (ninS ne859 nin0))
        have F890 : Arv Z T882.heap b_852 kb_852 .int (1 : Int32) [(.int k0)] (.int (0 : Int32)) := ((F871.ext E868).keep Kc882 (ninS ne860 nin0))
        have go891 : Go p e below s₁ F0 T886 (mkF m 203 #[vi p1, vi p2, vi p3, vi b, vi (3 : Int32), vi l0, vi l1, vi l2, vi (1 : Int32), vi k0, vi k1, vi k2, vr b_801, vr b_852, vr b857, vi (0 : Int32)] [(.ref b_852), (.ref b857)]) := by
          intro t_ k_
          refine go887 t_ ?_
          refine o_ifYes X886 hx (hb hby at_145) (pc' := 196) rfl (by decide) ((if0 _ _).trans (teq hc145_888).1) ?_
          refine o_iconst X886 hx (hb hby at_196) (v := 0) rfl ?_
          refine o_istore X886 hx (hb hby at_197) (L' := #[vi p1, vi p2, vi p3, vi b, vi (3 : Int32), vi l0, vi l1, vi l2, vi (1 : Int32), vi k0, vi k1, vi k2, vr b_801, vr b_852, vr b857, vi (0 : Int32)]) rfl ?_
          refine o_aload X886 hx (hb hby at_199) rfl rfl ?_
          refine o_aload X886 hx (hb hby at_201) rfl rfl ?_
          exact k_
        have F893 : Exa Z T882.heap b857 c_0 := (F876.keep Kc882)
        obtain ⟨cq892, kq892, q892a, q892b, q892c⟩ := isOf hZ eh886 F893
        obtain ⟨_, _, ⟨T892, L892, k892, n892⟩, -, X892, ⟨Lc892, hQ892, l892, y892, z892⟩, st892⟩ := X886.virtualBack hx (y := y_4) (z := y_4) hown (mvT hZ (own_w hw 31 rfl)) (mvT hZ (own_w hw 32 rfl)) (notFace_of_selects (args := #[]) (mvT hZ (own_w hw 34 rfl))) (mvT hZ (own_w hw 34 rfl)) (mvT hZ (own_w hw 33 rfl)) (by decide) (backOf (W := 0) (rm6_3_1 l Z a0 hw [] b857 b_852 b_801 kb_801 kb_852 l0 l1 l2 k0 (T882.heap) n0 Z883 F4_882 F889 F890) hZ (own_w hw 35 rfl) (own_w hw 7 rfl) (by decide) (by decide)) q892a q892c (g := (mkF m 203 #[vi p1, vi p2, vi p3, vi b, vi (3 : Int32), vi l0, vi l1, vi l2, vi (1 : Int32), vi k0, vi k1, vi k2, vr b_801, vr b_852, vr b857, vi (0 : Int32)] [(.ref b_852), (.ref b857)])) rfl (by rw [hml]; rfl) (Steps.refl _) (argsL := [(.ref b_852)]) (rest := []) (lenOf pd0_2 rfl) rfl (by show 2 * 0 + _ ≤ _; exact Nat.le_of_eq rfl) (hb hby at_203) (fun _ _ => ⟨rfl, eh886, (by decide : 4 + 0 ≤ _), (by decide : 8 + 0 ≤ _)⟩)
        dsimp only [Pt.U, Pt.locs, Pt.cells, Pt.slots] at X892 l892 y892 z892 st892 hQ892
        subst l892 y892 z892
        obtain ⟨rfl, Nq892, eh892⟩ := hQ892
        have N892 := Fr.app N886 Nq892
        have go894 : Go p e below s₁ F0 T892 (mkF m 206 #[vi p1, vi p2, vi p3, vi b, vi (3 : Int32), vi l0, vi l1, vi l2, vi (1 : Int32), vi k0, vi k1, vi k2, vr b_801, vr b_852, vr b857, vi (0 : Int32)] [(.int (f6_3_1 l0 l1 l2 k0))]) := fun t_ k_ => go891 t_ (st892.trans k_)
        have go896 : Go p e below s₁ F0 T892 (mkF m 208 #[vi p1, vi p2, vi p3, vi b, vi (3 : Int32), vi l0, vi l1, vi l2, vi (1 : Int32), vi k0, vi k1, vi k2, vr b_801, vr b_852, vr b857, vi (0 : Int32)] [(.int (0 : Int32)), (.int (f6_3_1 l0 l1 l2 k0))]) := by
          intro t_ k_
          refine go894 t_ ?_
          refine o_iload X892 hx (hb hby at_206) rfl ?_
          exact k_
        have hd895 : (f6_3_1 l0 l1 l2 k0) = (0 : Int32) := own_no_3_1_0 l0 l1 l2 k0 k1 k2 (own_s0 h_b h_l0 h_l1) (own_s1 h_b h_l0 h_l1 h_l2) hc145_888
        have go897 : Go p e below s₁ F0 T892 (mkF m 216 #[vi p1, vi p2, vi p3, vi b, vi (3 : Int32), vi l0, vi l1, vi l2, vi (1 : Int32), vi k0, vi k1, vi k2, vr b_801, vr b_852, vr b857, vi (0 : Int32)] [(.int (1 : Int32))]) := by
          intro t_ k_
          refine go896 t_ ?_
          refine o_icmpNo X892 hx (hb hby at_208) (teq hd895).2 ?_
          refine o_iconst X892 hx (hb hby at_211) (v := 1) rfl ?_
          refine o_goto X892 hx (hb hby at_212) (pc' := 216) rfl (by decide) ?_
          exact k_
        obtain ⟨fs, hr, hrun, hended, hW, hsame⟩ := X892.leave (v := some (.int (1 : Int32))) (fun h => by rw [Bd.returns] at h; cases h)
        refine ⟨_, _, pre0 _ (go897 _ ?_), hrun, hended, _, _, rfl, ?_, ⟨_, rfl⟩, hW, hsame.mono (by decide) (by decide)⟩
        · skip
          exact retN X892 hx (t := .boolean) Bd.returns (by simp) (hb hby at_216) hr
        · show Q0 Z p1 p2 p3 h0 n0 _ T892.heap _
          rw [eh892]
          exact ⟨rfl, N892⟩
      · skip
        have F898 : Arv Z T882.heap b_801 kb_801 .int (3 : Int32) [(.int l0), (.int l1), (.int l2)] (.int (0 : Int32)) := ((F869.ext E868).keep Kc882 (ninS ne859 nin0))
        have F899 : Arv Z T882.heap b_852 kb_852 .int (1 : Int32) [(.int k0)] (.int (0 : Int32)) := ((F871.ext E868).keep Kc882 (ninS ne860 nin0))
        have go900 : Go p e below s₁ F0 T886 (mkF m 203 #[vi p1, vi p2, vi p3, vi b, vi (3 : Int32), vi l0, vi l1, vi l2, vi (1 : Int32), vi k0, vi k1, vi k2, vr b_801, vr b_852, vr b857, vi (1 : Int32)] [(.ref b_852), (.ref b857)]) := by
          intro t_ k_
          refine go887 t_ ?_
          refine o_ifNo X886 hx (hb hby at_145) ((if0 _ _).trans (feq hc145_888).1) ?_
          refine o_iload X886 hx (hb hby at_148) rfl ?_
          refine o_iconst X886 hx (hb hby at_150) (v := 2) rfl ?_
          refine o_icmpYes X886 hx (hb hby at_151) (pc' := 170) rfl (by decide) (tlt (by decide : (1 : Int32) < (2 : Int32))).1 ?_
          refine o_iload X886 hx (hb hby at_170) rfl ?_
          refine o_iconst X886 hx (hb hby at_172) (v := 3) rfl ?_
          refine o_icmpYes X886 hx (hb hby at_173) (pc' := 192) rfl (by decide) (tlt (by decide : (1 : Int32) < (3 : Int32))).1 ?_
          refine o_iconst X886 hx (hb hby at_192) (v := 1) rfl ?_
          refine o_goto X886 hx (hb hby at_193) (pc' := 197) rfl (by decide) ?_
          refine o_istore X886 hx (hb hby at_197) (L' := #[vi p1, vi p2, vi p3, vi b, vi (3 : Int32), vi l0, vi l1, vi l2, vi (1 : Int32), vi k0, vi k1, vi k2, vr b_801, vr b_852, vr b857, vi (1 : Int32)]) rfl ?_
          refine o_aload X886 hx (hb hby at_199) rfl rfl ?_
          refine o_aload X886 hx (hb hby at_201) rfl rfl ?_
          exact k_
        have F902 : Exa Z T882.heap b857 c_0 := (F876.keep Kc882)
        obtain ⟨cq901, kq901, q901a, q901b, q901c⟩ := isOf hZ eh886 F902
        obtain ⟨_, _, ⟨T901, L901, k901, n901⟩, -, X901, ⟨Lc901, hQ901, l901, y901, z901⟩, st901⟩ := X886.virtualBack hx (y := y_4) (z := y_4) hown (mvT hZ (own_w hw 31 rfl)) (mvT hZ (own_w hw 32 rfl)) (notFace_of_selects (args := #[]) (mvT hZ (own_w hw 34 rfl))) (mvT hZ (own_w hw 34 rfl)) (mvT hZ (own_w hw 33 rfl)) (by decide) (backOf (W := 0) (rm6_3_1 l Z a0 hw [] b857 b_852 b_801 kb_801 kb_852 l0 l1 l2 k0 (T882.heap) n0 Z883 F4_882 F898 F899) hZ (own_w hw 35 rfl) (own_w hw 7 rfl) (by decide) (by decide)) q901a q901c (g := (mkF m 203 #[vi p1, vi p2, vi p3, vi b, vi (3 : Int32), vi l0, vi l1, vi l2, vi (1 : Int32), vi k0, vi k1, vi k2, vr b_801, vr b_852, vr b857, vi (1 : Int32)] [(.ref b_852), (.ref b857)])) rfl (by rw [hml]; rfl) (Steps.refl _) (argsL := [(.ref b_852)]) (rest := []) (lenOf pd0_2 rfl) rfl (by show 2 * 0 + _ ≤ _; exact Nat.le_of_eq rfl) (hb hby at_203) (fun _ _ => ⟨rfl, eh886, (by decide : 4 + 0 ≤ _), (by decide : 8 + 0 ≤ _)⟩)
        dsimp only [Pt.U, Pt.locs, Pt.cells, Pt.slots] at X901 l901 y901 z901 st901 hQ901
        subst l901 y901 z901
        obtain ⟨rfl, Nq901, eh901⟩ := hQ901
        have N901 := Fr.app N886 Nq901
        have go903 : Go p e below s₁ F0 T901 (mkF m 206 #[vi p1, vi p2, vi p3, vi b, vi (3 : Int32), vi l0, vi l1, vi l2, vi (1 : Int32), vi k0, vi k1, vi k2, vr b_801, vr b_852, vr b857, vi (1 : Int32)] [(.int (f6_3_1 l0 l1 l2 k0))]) := fun t_ k_ => go900 t_ (st901.trans k_)
        have go905 : Go p e below s₁ F0 T901 (mkF m 208 #[vi p1, vi p2, vi p3, vi b, vi (3 : Int32), vi l0, vi l1, vi l2, vi (1 : Int32), vi k0, vi k1, vi k2, vr b_801, vr b_852, vr b857, vi (1 : Int32)] [(.int (1 : Int32)), (.int (f6_3_1 l0 l1 l2 k0))]) := by
          intro t_ k_
          refine go903 t_ ?_
          refine o_iload X901 hx (hb hby at_206) rfl ?_
          exact k_
        have hd904 : (f6_3_1 l0 l1 l2 k0) = (1 : Int32) := own_yes_3_1 l0 l1 l2 k0 k1 k2 (own_s0 h_b h_l0 h_l1) (own_s1 h_b h_l0 h_l1 h_l2) hc145_888
        have go906 : Go p e below s₁ F0 T901 (mkF m 216 #[vi p1, vi p2, vi p3, vi b, vi (3 : Int32), vi l0, vi l1, vi l2, vi (1 : Int32), vi k0, vi k1, vi k2, vr b_801, vr b_852, vr b857, vi (1 : Int32)] [(.int (1 : Int32))]) := by
          intro t_ k_
          refine go905 t_ ?_
          refine o_icmpNo X901 hx (hb hby at_208) (teq hd904).2 ?_
          refine o_iconst X901 hx (hb hby at_211) (v := 1) rfl ?_
          refine o_goto X901 hx (hb hby at_212) (pc' := 216) rfl (by decide) ?_
          exact k_
        obtain ⟨fs, hr, hrun, hended, hW, hsame⟩ := X901.leave (v := some (.int (1 : Int32))) (fun h => by rw [Bd.returns] at h; cases h)
        refine ⟨_, _, pre0 _ (go906 _ ?_), hrun, hended, _, _, rfl, ?_, ⟨_, rfl⟩, hW, hsame.mono (by decide) (by decide)⟩
        · skip
          exact retN X901 hx (t := .boolean) Bd.returns (by simp) (hb hby at_216) hr
        · show Q0 Z p1 p2 p3 h0 n0 _ T901.heap _
          rw [eh901]
          exact ⟨rfl, N901⟩
    · skip
      have go907 : Go p e below s₁ F0 T801 (mkF m 95 #[vi p1, vi p2, vi p3, vi b, vi (3 : Int32), vi l0, vi l1, vi l2, vi (2 : Int32), vi k0, vi k1, vi k2, vr b_801, .unset, .unset, .unset] []) := by rw [hcs805] at go804; exact go804
      have go908 : Go p e below s₁ F0 T801 (mkF m 103 #[vi p1, vi p2, vi p3, vi b, vi (3 : Int32), vi l0, vi l1, vi l2, vi (2 : Int32), vi k0, vi k1, vi k2, vr b_801, .unset, .unset, .unset] [(.int k2), (.int k1), (.int k0), (.int (2 : Int32))]) := by
        intro t_ k_
        refine go907 t_ ?_
        refine o_iload X801 hx (hb hby at_95) rfl ?_
        refine o_iload X801 hx (hb hby at_97) rfl ?_
        refine o_iload X801 hx (hb hby at_99) rfl ?_
        refine o_iload X801 hx (hb hby at_101) rfl ?_
        exact k_
      obtain ⟨_, _, ⟨T909, L909, k909, n909⟩, -, X909, ⟨Lc909, hQ909, l909, y909, z909⟩, st909⟩ := Jvm.LawKit.callS X801 hx (y := y_1) hown (mvT hZ (own_w hw 0 rfl)) (mvT hZ (own_w hw 1 rfl)) (mvT hZ (own_w hw 2 rfl)) (mvT hZ (own_w hw 3 rfl)) (by decide) (backOf (W := 0) (rm1_2 l Z a0 hw [] k0 k1 k2 (T801.heap) n0 Z802 ) hZ (own_w hw 3 rfl) (own_w hw 2 rfl) (by decide) (by decide)) (g := (mkF m 103 #[vi p1, vi p2, vi p3, vi b, vi (3 : Int32), vi l0, vi l1, vi l2, vi (2 : Int32), vi k0, vi k1, vi k2, vr b_801, .unset, .unset, .unset] [(.int k2), (.int k1), (.int k0), (.int (2 : Int32))])) rfl (by rw [hml]; rfl) (argsL := [(.int (2 : Int32)), (.int k0), (.int k1), (.int k2)]) (rest := []) (lenOf pd0_0 rfl) rfl (by show 2 * 0 + _ ≤ _; exact Nat.le_of_eq rfl) (hb hby at_103) (fun _ _ => ⟨rfl, rfl, (by decide : 1 + 1 ≤ _), (by decide : 3 + 2 ≤ _)⟩)
      dsimp only [Pt.U, Pt.locs, Pt.cells, Pt.slots] at X909 l909 y909 z909 st909 hQ909
      subst l909 y909 z909
      obtain ⟨b_909, kb_909, rfl, Nq909, Kc909, hb_909, V_909⟩ := hQ909
      have N909 := Fr.app N801 Nq909
      have ne910 : b_801 ≠ b_909 := Nat.ne_of_lt (Nat.lt_of_lt_of_le V_801.lt hb_909)
      have g_b_909 : n0 ≤ b_909 := Nat.le_trans Z802 hb_909
      have Z911 : n0 ≤ T909.heap.size := Nat.le_trans Z802 Kc909.1
      have go912 : Go p e below s₁ F0 T909 (mkF m 106 #[vi p1, vi p2, vi p3, vi b, vi (3 : Int32), vi l0, vi l1, vi l2, vi (2 : Int32), vi k0, vi k1, vi k2, vr b_801, .unset, .unset, .unset] [(.ref b_909)]) := fun t_ k_ => go908 t_ (st909 t_ k_)
      have go913 : Go p e below s₁ F0 T909 (mkF m 108 #[vi p1, vi p2, vi p3, vi b, vi (3 : Int32), vi l0, vi l1, vi l2, vi (2 : Int32), vi k0, vi k1, vi k2, vr b_801, vr b_909, .unset, .unset] []) := by
        intro t_ k_
        refine go912 t_ ?_
        refine o_astore X909 hx (hb hby at_106) rfl (L' := #[vi p1, vi p2, vi p3, vi b, vi (3 : Int32), vi l0, vi l1, vi l2, vi (2 : Int32), vi k0, vi k1, vi k2, vr b_801, vr b_909, .unset, .unset]) rfl ?_
        exact k_
      obtain ⟨T914, h914, X914, e914, E914, A914, D914, -, st914⟩ := newO X909 hx hZ hown (own_w hw 5 rfl) (own_w hw 6 rfl) (own_w hw 7 rfl) rfl (g := (mkF m 108 #[vi p1, vi p2, vi p3, vi b, vi (3 : Int32), vi l0, vi l1, vi l2, vi (2 : Int32), vi k0, vi k1, vi k2, vr b_801, vr b_909, .unset, .unset] [])) rfl (hb hby at_108) (by decide) (by decide)
      obtain ⟨b914, gz914⟩ : ∃ z, z = T909.heap.size := ⟨_, rfl⟩
      rw [← gz914] at A914 D914 st914
      have F915 : Arv Z T909.heap b_801 kb_801 .int (3 : Int32) [(.int l0), (.int l1), (.int l2)] (.int (0 : Int32)) := (V_801.keep Kc909 nin0)
      have ne916 : b_801 ≠ b914 := Nat.ne_of_lt (Nat.lt_of_lt_of_le F915.lt (Nat.le_of_eq gz914.symm))
      have ne917 : b_909 ≠ b914 := Nat.ne_of_lt (Nat.lt_of_lt_of_le V_909.lt (Nat.le_of_eq gz914.symm))
      have g_b914 : n0 ≤ b914 := Nat.le_trans Z911 (Nat.le_of_eq gz914.symm)
      have Z918 : n0 ≤ h914.size := Nat.le_trans Z911 E914.1
      have F919 : Fld Z h914 b914 c_0 "id" "J" (.long (0 : Int64)) := D914 (Or.inr (own_w hw 21 rfl)) (ty := .long) (by decide)
      have F920 : Fld Z h914 b914 c_0 "power" "J" (.long (0 : Int64)) := D914 (Or.inr (own_w hw 23 rfl)) (ty := .long) (by decide)
      have F921 : Fld Z h914 b914 c_0 "units" "[I" .null := D914 (Or.inr (own_w hw 25 rfl)) (ty := (.array .int)) (by decide)
      have F922 : Fld Z h914 b914 c_0 "licences" "[I" .null := D914 (Or.inr (own_w hw 27 rfl)) (ty := (.array .int)) (by decide)
      have go923 : Go p e below s₁ F0 T914 (mkF m 111 #[vi p1, vi p2, vi p3, vi b, vi (3 : Int32), vi l0, vi l1, vi l2, vi (2 : Int32), vi k0, vi k1, vi k2, vr b_801, vr b_909, .unset, .unset] [(.ref b914)]) := fun t_ k_ => go913 t_ (st914 t_ k_)
      have go924 : Go p e below s₁ F0 T914 (mkF m 117 #[vi p1, vi p2, vi p3, vi b, vi (3 : Int32), vi l0, vi l1, vi l2, vi (2 : Int32), vi k0, vi k1, vi k2, vr b_801, vr b_909, .unset, .unset] [(.int (0 : Int32)), (.long (1000000 : Int64)), (.long (0 : Int64)), (.ref b914), (.ref b914)]) := by
        intro t_ k_
        refine go923 t_ ?_
        refine o_dup X914 hx (hb hby at_111) rfl ?_
        refine o_lconst X914 hx (hb hby at_112) (v := 0) rfl ?_
        refine o_ldc2 X914 hx hown (mvT hZ (own_w hw 8 rfl)) (hb hby at_113) ?_
        refine o_iconst X914 hx (hb hby at_116) (v := 0) rfl ?_
        exact k_
      obtain ⟨T925, h925, k925, X925, e925, E925, A925, st925⟩ := newP X914 hx hZ (own_w hw 4 rfl) e914 (g := (mkF m 117 #[vi p1, vi p2, vi p3, vi b, vi (3 : Int32), vi l0, vi l1, vi l2, vi (2 : Int32), vi k0, vi k1, vi k2, vr b_801, vr b_909, .unset, .unset] [(.int (0 : Int32)), (.long (1000000 : Int64)), (.long (0 : Int64)), (.ref b914), (.ref b914)])) rfl (hb hby at_117) rfl (by decide) (cap := 0) (by decide) (by decide) (by decide) (by decide)
      obtain ⟨b925, gz925⟩ : ∃ z, z = h914.size := ⟨_, rfl⟩
      rw [← gz925] at A925 st925
      have F926 : Arv Z h914 b_801 kb_801 .int (3 : Int32) [(.int l0), (.int l1), (.int l2)] (.int (0 : Int32)) := (F915.ext E914)
      have ne927 : b_801 ≠ b925 := Nat.ne_of_lt (Nat.lt_of_lt_of_le F926.lt (Nat.le_of_eq gz925.symm))
      have F928 : Arv Z h914 b_909 kb_909 .int (2 : Int32) [(.int k0), (.int k1)] (.int (0 : Int32)) := (V_909.ext E914)
      have ne929 : b_909 ≠ b925 := Nat.ne_of_lt (Nat.lt_of_lt_of_le F928.lt (Nat.le_of_eq gz925.symm))
      have ne930 : b914 ≠ b925 := Nat.ne_of_lt (Nat.lt_of_lt_of_le A914.lt (Nat.le_of_eq gz925.symm))
      have g_b925 : n0 ≤ b925 := Nat.le_trans Z918 (Nat.le_of_eq gz925.symm)
      have Z931 : n0 ≤ h925.size := Nat.le_trans Z918 E925.1
      have V925 : Arv Z h925 b925 k925 .int (0 : Int32) [] (.int (0 : Int32)) := (Arv.new A925 (by decide)).pad (pad_rep [] (.int (0 : Int32)) 0)
      have go932 : Go p e below s₁ F0 T925 (mkF m 119 #[vi p1, vi p2, vi p3, vi b, vi (3 : Int32), vi l0, vi l1, vi l2, vi (2 : Int32), vi k0, vi k1, vi k2, vr b_801, vr b_909, .unset, .unset] [(.ref b925), (.long (1000000 : Int64)), (.long (0 : Int64)), (.ref b914), (.ref b914)]) := fun t_ k_ => go924 t_ (st925 t_ k_)
      have F933 : Exa Z h925 b914 c_0 := (A914.ext E925)
      have F934 : Fld Z h925 b914 c_0 "id" "J" (.long (0 : Int64)) := (F919.ext E925)
      have F935 : Fld Z h925 b914 c_0 "power" "J" (.long (0 : Int64)) := (F920.ext E925)
      have F936 : Fld Z h925 b914 c_0 "units" "[I" .null := (F921.ext E925)
      have F937 : Fld Z h925 b914 c_0 "licences" "[I" .null := (F922.ext E925)
      have go938 : Go p e below s₁ F0 T925 (mkF m 121 #[vi p1, vi p2, vi p3, vi b, vi (3 : Int32), vi l0, vi l1, vi l2, vi (2 : Int32), vi k0, vi k1, vi k2, vr b_801, vr b_909, .unset, .unset] [(.ref b_801), (.ref b925), (.long (1000000 : Int64)), (.long (0 : Int64)), (.ref b914), (.ref b914)]) := by
        intro t_ k_
        refine go932 t_ ?_
        refine o_aload X925 hx (hb hby at_119) rfl rfl ?_
        exact k_
      obtain ⟨_, _, ⟨T939, L939, k939, n939⟩, -, X939, ⟨Lc939, hQ939, l939, y939, z939⟩, st939⟩ := X925.specialBack hx (y := y_2) rfl hown (mvT hZ (own_w hw 9 rfl)) (mvT hZ (own_w hw 10 rfl)) (mvT hZ (own_w hw 11 rfl)) (by decide) (backOf (W := 1) (rm2 l Z a0 hw [] b914 (0 : Int64) (1000000 : Int64) b925 b_801 h925 n0 Z931 F933 F934 F935 F936 F937 g_b914) hZ (own_w hw 11 rfl) (own_w hw 7 rfl) (by decide) (by decide)) (g := (mkF m 121 #[vi p1, vi p2, vi p3, vi b, vi (3 : Int32), vi l0, vi l1, vi l2, vi (2 : Int32), vi k0, vi k1, vi k2, vr b_801, vr b_909, .unset, .unset] [(.ref b_801), (.ref b925), (.long (1000000 : Int64)), (.long (0 : Int64)), (.ref b914), (.ref b914)])) rfl (by rw [hml]; rfl) (Steps.refl _) (a := b914) (argsL := [(.long (0 : Int64)), (.long (1000000 : Int64)), (.ref b925), (.ref b_801)]) (rest := [(.ref b914)]) (lenOf pd0_1 rfl) rfl (by show 2 * 0 + _ ≤ _; exact Nat.le_of_eq rfl) (hb hby at_121) (fun _ _ => ⟨rfl, e925, (by decide : 4 + 0 ≤ _), (by decide : 9 + 0 ≤ _)⟩)
      dsimp only [Pt.U, Pt.locs, Pt.cells, Pt.slots] at X939 l939 y939 z939 st939 hQ939
      subst l939 y939 z939
      obtain ⟨rfl, Nq939, Kc939, F4_939⟩ := hQ939
      have N939 := Fr.app N909 Nq939
      have Z940 : n0 ≤ T939.heap.size := Nat.le_trans Z931 Kc939.1
      have go941 : Go p e below s₁ F0 T939 (mkF m 124 #[vi p1, vi p2, vi p3, vi b, vi (3 : Int32), vi l0, vi l1, vi l2, vi (2 : Int32), vi k0, vi k1, vi k2, vr b_801, vr b_909, .unset, .unset] [(.ref b914)]) := fun t_ k_ => go938 t_ (st939.trans k_)
      have go942 : Go p e below s₁ F0 T939 (mkF m 142 #[vi p1, vi p2, vi p3, vi b, vi (3 : Int32), vi l0, vi l1, vi l2, vi (2 : Int32), vi k0, vi k1, vi k2, vr b_801, vr b_909, vr b914, .unset] [(.int k0), (.int l2), (.int l1), (.int l0), (.int (3 : Int32))]) := by
        intro t_ k_
        refine go941 t_ ?_
        refine o_astore X939 hx (hb hby at_124) rfl (L' := #[vi p1, vi p2, vi p3, vi b, vi (3 : Int32), vi l0, vi l1, vi l2, vi (2 : Int32), vi k0, vi k1, vi k2, vr b_801, vr b_909, vr b914, .unset]) rfl ?_
        refine o_iload X939 hx (hb hby at_126) rfl ?_
        refine o_iconst X939 hx (hb hby at_128) (v := 1) rfl ?_
        refine o_icmpNo X939 hx (hb hby at_129) (flt (by decide : ¬ ((2 : Int32) < (1 : Int32)))).1 ?_
        refine o_iload X939 hx (hb hby at_132) rfl ?_
        refine o_iload X939 hx (hb hby at_134) rfl ?_
        refine o_iload X939 hx (hb hby at_136) rfl ?_
        refine o_iload X939 hx (hb hby at_138) rfl ?_
        refine o_iload X939 hx (hb hby at_140) rfl ?_
        exact k_
      obtain ⟨_, _, ⟨T943, L943, k943, n943⟩, -, X943, ⟨Lc943, hQ943, l943, y943, z943⟩, st943⟩ := Jvm.LawKit.callS X939 hx (y := y_3) hown (mvT hZ (own_w hw 28 rfl)) (mvT hZ (own_w hw 29 rfl)) (mvT hZ (own_w hw 2 rfl)) (mvT hZ (own_w hw 30 rfl)) (by decide) (backOf (W := 0) (rm5_3 l Z a0 hw [] l0 l1 l2 k0 (T939.heap) n0 Z940 ) hZ (own_w hw 30 rfl) (own_w hw 2 rfl) (by decide) (by decide)) (g := (mkF m 142 #[vi p1, vi p2, vi p3, vi b, vi (3 : Int32), vi l0, vi l1, vi l2, vi (2 : Int32), vi k0, vi k1, vi k2, vr b_801, vr b_909, vr b914, .unset] [(.int k0), (.int l2), (.int l1), (.int l0), (.int (3 : Int32))])) rfl (by rw [hml]; rfl) (argsL := [(.int (3 : Int32)), (.int l0), (.int l1), (.int l2), (.int k0)]) (rest := []) (lenOf pd0_3 rfl) rfl (by show 2 * 0 + _ ≤ _; exact Nat.le_of_eq rfl) (hb hby at_142) (fun _ _ => ⟨rfl, rfl, (by decide : 4 + 0 ≤ _), (by decide : 9 + 0 ≤ _)⟩)
      dsimp only [Pt.U, Pt.locs, Pt.cells, Pt.slots] at X943 l943 y943 z943 st943 hQ943
      subst l943 y943 z943
      obtain ⟨rfl, Nq943, eh943⟩ := hQ943
      have N943 := Fr.app N939 Nq943
      have go944 : Go p e below s₁ F0 T943 (mkF m 145 #[vi p1, vi p2, vi p3, vi b, vi (3 : Int32), vi l0, vi l1, vi l2, vi (2 : Int32), vi k0, vi k1, vi k2, vr b_801, vr b_909, vr b914, .unset] [(.int (f5_3 l0 l1 l2 k0))]) := fun t_ k_ => go942 t_ (st943 t_ k_)
      by_cases hc145_945 : (f5_3 l0 l1 l2 k0) = (0 : Int32)
      · skip
        have F946 : Arv Z T939.heap b_801 kb_801 .int (3 : Int32) [(.int l0), (.int l1), (.int l2)] (.int (0 : Int32)) := ((F926.ext E925).keep Kc939 (ninS ne916 nin0))
        have F947 : Arv Z T939.heap b_909 kb_909 .int (2 : Int32) [(.int k0), (.int k1)] (.int (0 : Int32)) := ((F928.ext E925).keep Kc939 (ninS ne917 nin0))
        have go948 : Go p e below s₁ F0 T943 (mkF m 203 #[vi p1, vi p2, vi p3, vi b, vi (3 : Int32), vi l0, vi l1, vi l2, vi (2 : Int32), vi k0, vi k1, vi k2, vr b_801, vr b_909, vr b914, vi (0 : Int32)] [(.ref b_909), (.ref b914)]) := by
          intro t_ k_
          refine go944 t_ ?_
          refine o_ifYes X943 hx (hb hby at_145) (pc' := 196) rfl (by decide) ((if0 _ _).trans (teq hc145_945).1) ?_
          refine o_iconst X943 hx (hb hby at_196) (v := 0) rfl ?_
          refine o_istore X943 hx (hb hby at_197) (L' := #[vi p1, vi p2, vi p3, vi b, vi (3 : Int32), vi l0, vi l1, vi l2, vi (2 : Int32), vi k0, vi k1, vi k2, vr b_801, vr b_909, vr b914, vi (0 : Int32)]) rfl ?_
          refine o_aload X943 hx (hb hby at_199) rfl rfl ?_
          refine o_aload X943 hx (hb hby at_201) rfl rfl ?_
          exact k_
        have F950 : Exa Z T939.heap b914 c_0 := (F933.keep Kc939)
        obtain ⟨cq949, kq949, q949a, q949b, q949c⟩ := isOf hZ eh943 F950
        obtain ⟨_, _, ⟨T949, L949, k949, n949⟩, -, X949, ⟨Lc949, hQ949, l949, y949, z949⟩, st949⟩ := X943.virtualBack hx (y := y_4) (z := y_4) hown (mvT hZ (own_w hw 31 rfl)) (mvT hZ (own_w hw 32 rfl)) (notFace_of_selects (args := #[]) (mvT hZ (own_w hw 34 rfl))) (mvT hZ (own_w hw 34 rfl)) (mvT hZ (own_w hw 33 rfl)) (by decide) (backOf (W := 0) (rm6_3_2 l Z a0 hw [] b914 b_909 b_801 kb_801 kb_909 l0 l1 l2 k0 k1 (T939.heap) n0 Z940 F4_939 F946 F947 (own_s0 h_b h_k0 h_k1)) hZ (own_w hw 35 rfl) (own_w hw 7 rfl) (by decide) (by decide)) q949a q949c (g := (mkF m 203 #[vi p1, vi p2, vi p3, vi b, vi (3 : Int32), vi l0, vi l1, vi l2, vi (2 : Int32), vi k0, vi k1, vi k2, vr b_801, vr b_909, vr b914, vi (0 : Int32)] [(.ref b_909), (.ref b914)])) rfl (by rw [hml]; rfl) (Steps.refl _) (argsL := [(.ref b_909)]) (rest := []) (lenOf pd0_2 rfl) rfl (by show 2 * 0 + _ ≤ _; exact Nat.le_of_eq rfl) (hb hby at_203) (fun _ _ => ⟨rfl, eh943, (by decide : 4 + 0 ≤ _), (by decide : 9 + 0 ≤ _)⟩)
        dsimp only [Pt.U, Pt.locs, Pt.cells, Pt.slots] at X949 l949 y949 z949 st949 hQ949
        subst l949 y949 z949
        obtain ⟨rfl, Nq949, eh949⟩ := hQ949
        have N949 := Fr.app N943 Nq949
        have go951 : Go p e below s₁ F0 T949 (mkF m 206 #[vi p1, vi p2, vi p3, vi b, vi (3 : Int32), vi l0, vi l1, vi l2, vi (2 : Int32), vi k0, vi k1, vi k2, vr b_801, vr b_909, vr b914, vi (0 : Int32)] [(.int (f6_3_2 l0 l1 l2 k0 k1))]) := fun t_ k_ => go948 t_ (st949.trans k_)
        have go953 : Go p e below s₁ F0 T949 (mkF m 208 #[vi p1, vi p2, vi p3, vi b, vi (3 : Int32), vi l0, vi l1, vi l2, vi (2 : Int32), vi k0, vi k1, vi k2, vr b_801, vr b_909, vr b914, vi (0 : Int32)] [(.int (0 : Int32)), (.int (f6_3_2 l0 l1 l2 k0 k1))]) := by
          intro t_ k_
          refine go951 t_ ?_
          refine o_iload X949 hx (hb hby at_206) rfl ?_
          exact k_
        have hd952 : (f6_3_2 l0 l1 l2 k0 k1) = (0 : Int32) := own_no_3_2_0 l0 l1 l2 k0 k1 k2 (own_s0 h_b h_l0 h_l1) (own_s1 h_b h_l0 h_l1 h_l2) (own_s0 h_b h_k0 h_k1) hc145_945
        have go954 : Go p e below s₁ F0 T949 (mkF m 216 #[vi p1, vi p2, vi p3, vi b, vi (3 : Int32), vi l0, vi l1, vi l2, vi (2 : Int32), vi k0, vi k1, vi k2, vr b_801, vr b_909, vr b914, vi (0 : Int32)] [(.int (1 : Int32))]) := by
          intro t_ k_
          refine go953 t_ ?_
          refine o_icmpNo X949 hx (hb hby at_208) (teq hd952).2 ?_
          refine o_iconst X949 hx (hb hby at_211) (v := 1) rfl ?_
          refine o_goto X949 hx (hb hby at_212) (pc' := 216) rfl (by decide) ?_
          exact k_
        obtain ⟨fs, hr, hrun, hended, hW, hsame⟩ := X949.leave (v := some (.int (1 : Int32))) (fun h => by rw [Bd.returns] at h; cases h)
        refine ⟨_, _, pre0 _ (go954 _ ?_), hrun, hended, _, _, rfl, ?_, ⟨_, rfl⟩, hW, hsame.mono (by decide) (by decide)⟩
        · skip
          exact retN X949 hx (t := .boolean) Bd.returns (by simp) (hb hby at_216) hr
        · show Q0 Z p1 p2 p3 h0 n0 _ T949.heap _
          rw [eh949]
          exact ⟨rfl, N949⟩
      · skip
        have go955 : Go p e below s₁ F0 T943 (mkF m 164 #[vi p1, vi p2, vi p3, vi b, vi (3 : Int32), vi l0, vi l1, vi l2, vi (2 : Int32), vi k0, vi k1, vi k2, vr b_801, vr b_909, vr b914, .unset] [(.int k1), (.int l2), (.int l1), (.int l0), (.int (3 : Int32))]) := by
          intro t_ k_
          refine go944 t_ ?_
          refine o_ifNo X943 hx (hb hby at_145) ((if0 _ _).trans (feq hc145_945).1) ?_
          refine o_iload X943 hx (hb hby at_148) rfl ?_
          refine o_iconst X943 hx (hb hby at_150) (v := 2) rfl ?_
          refine o_icmpNo X943 hx (hb hby at_151) (flt (by decide : ¬ ((2 : Int32) < (2 : Int32)))).1 ?_
          refine o_iload X943 hx (hb hby at_154) rfl ?_
          refine o_iload X943 hx (hb hby at_156) rfl ?_
          refine o_iload X943 hx (hb hby at_158) rfl ?_
          refine o_iload X943 hx (hb hby at_160) rfl ?_
          refine o_iload X943 hx (hb hby at_162) rfl ?_
          exact k_
        obtain ⟨_, _, ⟨T956, L956, k956, n956⟩, -, X956, ⟨Lc956, hQ956, l956, y956, z956⟩, st956⟩ := Jvm.LawKit.callS X943 hx (y := y_3) hown (mvT hZ (own_w hw 28 rfl)) (mvT hZ (own_w hw 29 rfl)) (mvT hZ (own_w hw 2 rfl)) (mvT hZ (own_w hw 30 rfl)) (by decide) (backOf (W := 0) (rm5_3 l Z a0 hw [] l0 l1 l2 k1 (T939.heap) n0 Z940 ) hZ (own_w hw 30 rfl) (own_w hw 2 rfl) (by decide) (by decide)) (g := (mkF m 164 #[vi p1, vi p2, vi p3, vi b, vi (3 : Int32), vi l0, vi l1, vi l2, vi (2 : Int32), vi k0, vi k1, vi k2, vr b_801, vr b_909, vr b914, .unset] [(.int k1), (.int l2), (.int l1), (.int l0), (.int (3 : Int32))])) rfl (by rw [hml]; rfl) (argsL := [(.int (3 : Int32)), (.int l0), (.int l1), (.int l2), (.int k1)]) (rest := []) (lenOf pd0_3 rfl) rfl (by show 2 * 0 + _ ≤ _; exact Nat.le_of_eq rfl) (hb hby at_164) (fun _ _ => ⟨rfl, eh943, (by decide : 4 + 0 ≤ _), (by decide : 9 + 0 ≤ _)⟩)
        dsimp only [Pt.U, Pt.locs, Pt.cells, Pt.slots] at X956 l956 y956 z956 st956 hQ956
        subst l956 y956 z956
        obtain ⟨rfl, Nq956, eh956⟩ := hQ956
        have N956 := Fr.app N943 Nq956
        have go957 : Go p e below s₁ F0 T956 (mkF m 167 #[vi p1, vi p2, vi p3, vi b, vi (3 : Int32), vi l0, vi l1, vi l2, vi (2 : Int32), vi k0, vi k1, vi k2, vr b_801, vr b_909, vr b914, .unset] [(.int (f5_3 l0 l1 l2 k1))]) := fun t_ k_ => go955 t_ (st956 t_ k_)
        by_cases hc167_958 : (f5_3 l0 l1 l2 k1) = (0 : Int32)
        · skip
          have F959 : Arv Z T939.heap b_801 kb_801 .int (3 : Int32) [(.int l0), (.int l1), (.int l2)] (.int (0 : Int32)) := ((F926.ext E925).keep Kc939 (ninS ne916 nin0))
          have F960 : Arv Z T939.heap b_909 kb_909 .int (2 : Int32) [(.int k0), (.int k1)] (.int (0 : Int32)) := ((F928.ext E925).keep Kc939 (ninS ne917 nin0))
          have go961 : Go p e below s₁ F0 T956 (mkF m 203 #[vi p1, vi p2, vi p3, vi b, vi (3 : Int32), vi l0, vi l1, vi l2, vi (2 : Int32), vi k0, vi k1, vi k2, vr b_801, vr b_909, vr b914, vi (0 : Int32)] [(.ref b_909), (.ref b914)]) := by
            intro t_ k_
            refine go957 t_ ?_
            refine o_ifYes X956 hx (hb hby at_167) (pc' := 196) rfl (by decide) ((if0 _ _).trans (teq hc167_958).1) ?_
            refine o_iconst X956 hx (hb hby at_196) (v := 0) rfl ?_
            refine o_istore X956 hx (hb hby at_197) (L' := #[vi p1, vi p2, vi p3, vi b, vi (3 : Int32), vi l0, vi l1, vi l2, vi (2 : Int32), vi k0, vi k1, vi k2, vr b_801, vr b_909, vr b914, vi (0 : Int32)]) rfl ?_
            refine o_aload X956 hx (hb hby at_199) rfl rfl ?_
            refine o_aload X956 hx (hb hby at_201) rfl rfl ?_
            exact k_
          have F963 : Exa Z T939.heap b914 c_0 := (F933.keep Kc939)
          obtain ⟨cq962, kq962, q962a, q962b, q962c⟩ := isOf hZ eh956 F963
          obtain ⟨_, _, ⟨T962, L962, k962, n962⟩, -, X962, ⟨Lc962, hQ962, l962, y962, z962⟩, st962⟩ := X956.virtualBack hx (y := y_4) (z := y_4) hown (mvT hZ (own_w hw 31 rfl)) (mvT hZ (own_w hw 32 rfl)) (notFace_of_selects (args := #[]) (mvT hZ (own_w hw 34 rfl))) (mvT hZ (own_w hw 34 rfl)) (mvT hZ (own_w hw 33 rfl)) (by decide) (backOf (W := 0) (rm6_3_2 l Z a0 hw [] b914 b_909 b_801 kb_801 kb_909 l0 l1 l2 k0 k1 (T939.heap) n0 Z940 F4_939 F959 F960 (own_s0 h_b h_k0 h_k1)) hZ (own_w hw 35 rfl) (own_w hw 7 rfl) (by decide) (by decide)) q962a q962c (g := (mkF m 203 #[vi p1, vi p2, vi p3, vi b, vi (3 : Int32), vi l0, vi l1, vi l2, vi (2 : Int32), vi k0, vi k1, vi k2, vr b_801, vr b_909, vr b914, vi (0 : Int32)] [(.ref b_909), (.ref b914)])) rfl (by rw [hml]; rfl) (Steps.refl _) (argsL := [(.ref b_909)]) (rest := []) (lenOf pd0_2 rfl) rfl (by show 2 * 0 + _ ≤ _; exact Nat.le_of_eq rfl) (hb hby at_203) (fun _ _ => ⟨rfl, eh956, (by decide : 4 + 0 ≤ _), (by decide : 9 + 0 ≤ _)⟩)
          dsimp only [Pt.U, Pt.locs, Pt.cells, Pt.slots] at X962 l962 y962 z962 st962 hQ962
          subst l962 y962 z962
          obtain ⟨rfl, Nq962, eh962⟩ := hQ962
          have N962 := Fr.app N956 Nq962
          have go964 : Go p e below s₁ F0 T962 (mkF m 206 #[vi p1, vi p2, vi p3, vi b, vi (3 : Int32), vi l0, vi l1, vi l2, vi (2 : Int32), vi k0, vi k1, vi k2, vr b_801, vr b_909, vr b914, vi (0 : Int32)] [(.int (f6_3_2 l0 l1 l2 k0 k1))]) := fun t_ k_ => go961 t_ (st962.trans k_)
          have go966 : Go p e below s₁ F0 T962 (mkF m 208 #[vi p1, vi p2, vi p3, vi b, vi (3 : Int32), vi l0, vi l1, vi l2, vi (2 : Int32), vi k0, vi k1, vi k2, vr b_801, vr b_909, vr b914, vi (0 : Int32)] [(.int (0 : Int32)), (.int (f6_3_2 l0 l1 l2 k0 k1))]) := by
            intro t_ k_
            refine go964 t_ ?_
            refine o_iload X962 hx (hb hby at_206) rfl ?_
            exact k_
          have hd965 : (f6_3_2 l0 l1 l2 k0 k1) = (0 : Int32) := own_no_3_2_1 l0 l1 l2 k0 k1 k2 (own_s0 h_b h_l0 h_l1) (own_s1 h_b h_l0 h_l1 h_l2) (own_s0 h_b h_k0 h_k1) hc167_958
          have go967 : Go p e below s₁ F0 T962 (mkF m 216 #[vi p1, vi p2, vi p3, vi b, vi (3 : Int32), vi l0, vi l1, vi l2, vi (2 : Int32), vi k0, vi k1, vi k2, vr b_801, vr b_909, vr b914, vi (0 : Int32)] [(.int (1 : Int32))]) := by
            intro t_ k_
            refine go966 t_ ?_
            refine o_icmpNo X962 hx (hb hby at_208) (teq hd965).2 ?_
            refine o_iconst X962 hx (hb hby at_211) (v := 1) rfl ?_
            refine o_goto X962 hx (hb hby at_212) (pc' := 216) rfl (by decide) ?_
            exact k_
          obtain ⟨fs, hr, hrun, hended, hW, hsame⟩ := X962.leave (v := some (.int (1 : Int32))) (fun h => by rw [Bd.returns] at h; cases h)
          refine ⟨_, _, pre0 _ (go967 _ ?_), hrun, hended, _, _, rfl, ?_, ⟨_, rfl⟩, hW, hsame.mono (by decide) (by decide)⟩
          · skip
            exact retN X962 hx (t := .boolean) Bd.returns (by simp) (hb hby at_216) hr
          · show Q0 Z p1 p2 p3 h0 n0 _ T962.heap _
            rw [eh962]
            exact ⟨rfl, N962⟩
        · skip
          have F968 : Arv Z T939.heap b_801 kb_801 .int (3 : Int32) [(.int l0), (.int l1), (.int l2)] (.int (0 : Int32)) := ((F926.ext E925).keep Kc939 (ninS ne916 nin0))
          have F969 : Arv Z T939.heap b_909 kb_909 .int (2 : Int32) [(.int k0), (.int k1)] (.int (0 : Int32)) := ((F928.ext E925).keep Kc939 (ninS ne917 nin0))
          have go970 : Go p e below s₁ F0 T956 (mkF m 203 #[vi p1, vi p2, vi p3, vi b, vi (3 : Int32), vi l0, vi l1, vi l2, vi (2 : Int32), vi k0, vi k1, vi k2, vr b_801, vr b_909, vr b914, vi (1 : Int32)] [(.ref b_909), (.ref b914)]) := by
            intro t_ k_
            refine go957 t_ ?_
            refine o_ifNo X956 hx (hb hby at_167) ((if0 _ _).trans (feq hc167_958).1) ?_
            refine o_iload X956 hx (hb hby at_170) rfl ?_
            refine o_iconst X956 hx (hb hby at_172) (v := 3) rfl ?_
            refine o_icmpYes X956 hx (hb hby at_173) (pc' := 192) rfl (by decide) (tlt (by decide : (2 : Int32) < (3 : Int32))).1 ?_
            refine o_iconst X956 hx (hb hby at_192) (v := 1) rfl ?_
            refine o_goto X956 hx (hb hby at_193) (pc' := 197) rfl (by decide) ?_
            refine o_istore X956 hx (hb hby at_197) (L' := #[vi p1, vi p2, vi p3, vi b, vi (3 : Int32), vi l0, vi l1, vi l2, vi (2 : Int32), vi k0, vi k1, vi k2, vr b_801, vr b_909, vr b914, vi (1 : Int32)]) rfl ?_
            refine o_aload X956 hx (hb hby at_199) rfl rfl ?_
            refine o_aload X956 hx (hb hby at_201) rfl rfl ?_
            exact k_
          have F972 : Exa Z T939.heap b914 c_0 := (F933.keep Kc939)
          obtain ⟨cq971, kq971, q971a, q971b, q971c⟩ := isOf hZ eh956 F972
          obtain ⟨_, _, ⟨T971, L971, k971, n971⟩, -, X971, ⟨Lc971, hQ971, l971, y971, z971⟩, st971⟩ := X956.virtualBack hx (y := y_4) (z := y_4) hown (mvT hZ (own_w hw 31 rfl)) (mvT hZ (own_w hw 32 rfl)) (notFace_of_selects (args := #[]) (mvT hZ (own_w hw 34 rfl))) (mvT hZ (own_w hw 34 rfl)) (mvT hZ (own_w hw 33 rfl)) (by decide) (backOf (W := 0) (rm6_3_2 l Z a0 hw [] b914 b_909 b_801 kb_801 kb_909 l0 l1 l2 k0 k1 (T939.heap) n0 Z940 F4_939 F968 F969 (own_s0 h_b h_k0 h_k1)) hZ (own_w hw 35 rfl) (own_w hw 7 rfl) (by decide) (by decide)) q971a q971c (g := (mkF m 203 #[vi p1, vi p2, vi p3, vi b, vi (3 : Int32), vi l0, vi l1, vi l2, vi (2 : Int32), vi k0, vi k1, vi k2, vr b_801, vr b_909, vr b914, vi (1 : Int32)] [(.ref b_909), (.ref b914)])) rfl (by rw [hml]; rfl) (Steps.refl _) (argsL := [(.ref b_909)]) (rest := []) (lenOf pd0_2 rfl) rfl (by show 2 * 0 + _ ≤ _; exact Nat.le_of_eq rfl) (hb hby at_203) (fun _ _ => ⟨rfl, eh956, (by decide : 4 + 0 ≤ _), (by decide : 9 + 0 ≤ _)⟩)
          dsimp only [Pt.U, Pt.locs, Pt.cells, Pt.slots] at X971 l971 y971 z971 st971 hQ971
          subst l971 y971 z971
          obtain ⟨rfl, Nq971, eh971⟩ := hQ971
          have N971 := Fr.app N956 Nq971
          have go973 : Go p e below s₁ F0 T971 (mkF m 206 #[vi p1, vi p2, vi p3, vi b, vi (3 : Int32), vi l0, vi l1, vi l2, vi (2 : Int32), vi k0, vi k1, vi k2, vr b_801, vr b_909, vr b914, vi (1 : Int32)] [(.int (f6_3_2 l0 l1 l2 k0 k1))]) := fun t_ k_ => go970 t_ (st971.trans k_)
          have go975 : Go p e below s₁ F0 T971 (mkF m 208 #[vi p1, vi p2, vi p3, vi b, vi (3 : Int32), vi l0, vi l1, vi l2, vi (2 : Int32), vi k0, vi k1, vi k2, vr b_801, vr b_909, vr b914, vi (1 : Int32)] [(.int (1 : Int32)), (.int (f6_3_2 l0 l1 l2 k0 k1))]) := by
            intro t_ k_
            refine go973 t_ ?_
            refine o_iload X971 hx (hb hby at_206) rfl ?_
            exact k_
          have hd974 : (f6_3_2 l0 l1 l2 k0 k1) = (1 : Int32) := own_yes_3_2 l0 l1 l2 k0 k1 k2 (own_s0 h_b h_l0 h_l1) (own_s1 h_b h_l0 h_l1 h_l2) (own_s0 h_b h_k0 h_k1) hc145_945 hc167_958
          have go976 : Go p e below s₁ F0 T971 (mkF m 216 #[vi p1, vi p2, vi p3, vi b, vi (3 : Int32), vi l0, vi l1, vi l2, vi (2 : Int32), vi k0, vi k1, vi k2, vr b_801, vr b_909, vr b914, vi (1 : Int32)] [(.int (1 : Int32))]) := by
            intro t_ k_
            refine go975 t_ ?_
            refine o_icmpNo X971 hx (hb hby at_208) (teq hd974).2 ?_
            refine o_iconst X971 hx (hb hby at_211) (v := 1) rfl ?_
            refine o_goto X971 hx (hb hby at_212) (pc' := 216) rfl (by decide) ?_
            exact k_
          obtain ⟨fs, hr, hrun, hended, hW, hsame⟩ := X971.leave (v := some (.int (1 : Int32))) (fun h => by rw [Bd.returns] at h; cases h)
          refine ⟨_, _, pre0 _ (go976 _ ?_), hrun, hended, _, _, rfl, ?_, ⟨_, rfl⟩, hW, hsame.mono (by decide) (by decide)⟩
          · skip
            exact retN X971 hx (t := .boolean) Bd.returns (by simp) (hb hby at_216) hr
          · show Q0 Z p1 p2 p3 h0 n0 _ T971.heap _
            rw [eh971]
            exact ⟨rfl, N971⟩
    · skip
      have go977 : Go p e below s₁ F0 T801 (mkF m 95 #[vi p1, vi p2, vi p3, vi b, vi (3 : Int32), vi l0, vi l1, vi l2, vi (3 : Int32), vi k0, vi k1, vi k2, vr b_801, .unset, .unset, .unset] []) := by rw [hcs805] at go804; exact go804
      have go978 : Go p e below s₁ F0 T801 (mkF m 103 #[vi p1, vi p2, vi p3, vi b, vi (3 : Int32), vi l0, vi l1, vi l2, vi (3 : Int32), vi k0, vi k1, vi k2, vr b_801, .unset, .unset, .unset] [(.int k2), (.int k1), (.int k0), (.int (3 : Int32))]) := by
        intro t_ k_
        refine go977 t_ ?_
        refine o_iload X801 hx (hb hby at_95) rfl ?_
        refine o_iload X801 hx (hb hby at_97) rfl ?_
        refine o_iload X801 hx (hb hby at_99) rfl ?_
        refine o_iload X801 hx (hb hby at_101) rfl ?_
        exact k_
      obtain ⟨_, _, ⟨T979, L979, k979, n979⟩, -, X979, ⟨Lc979, hQ979, l979, y979, z979⟩, st979⟩ := Jvm.LawKit.callS X801 hx (y := y_1) hown (mvT hZ (own_w hw 0 rfl)) (mvT hZ (own_w hw 1 rfl)) (mvT hZ (own_w hw 2 rfl)) (mvT hZ (own_w hw 3 rfl)) (by decide) (backOf (W := 0) (rm1_3 l Z a0 hw [] k0 k1 k2 (T801.heap) n0 Z802 ) hZ (own_w hw 3 rfl) (own_w hw 2 rfl) (by decide) (by decide)) (g := (mkF m 103 #[vi p1, vi p2, vi p3, vi b, vi (3 : Int32), vi l0, vi l1, vi l2, vi (3 : Int32), vi k0, vi k1, vi k2, vr b_801, .unset, .unset, .unset] [(.int k2), (.int k1), (.int k0), (.int (3 : Int32))])) rfl (by rw [hml]; rfl) (argsL := [(.int (3 : Int32)), (.int k0), (.int k1), (.int k2)]) (rest := []) (lenOf pd0_0 rfl) rfl (by show 2 * 0 + _ ≤ _; exact Nat.le_of_eq rfl) (hb hby at_103) (fun _ _ => ⟨rfl, rfl, (by decide : 1 + 1 ≤ _), (by decide : 3 + 3 ≤ _)⟩)
      dsimp only [Pt.U, Pt.locs, Pt.cells, Pt.slots] at X979 l979 y979 z979 st979 hQ979
      subst l979 y979 z979
      obtain ⟨b_979, kb_979, rfl, Nq979, Kc979, hb_979, V_979⟩ := hQ979
      have N979 := Fr.app N801 Nq979
      have ne980 : b_801 ≠ b_979 := Nat.ne_of_lt (Nat.lt_of_lt_of_le V_801.lt hb_979)
      have g_b_979 : n0 ≤ b_979 := Nat.le_trans Z802 hb_979
      have Z981 : n0 ≤ T979.heap.size := Nat.le_trans Z802 Kc979.1
      have go982 : Go p e below s₁ F0 T979 (mkF m 106 #[vi p1, vi p2, vi p3, vi b, vi (3 : Int32), vi l0, vi l1, vi l2, vi (3 : Int32), vi k0, vi k1, vi k2, vr b_801, .unset, .unset, .unset] [(.ref b_979)]) := fun t_ k_ => go978 t_ (st979 t_ k_)
      have go983 : Go p e below s₁ F0 T979 (mkF m 108 #[vi p1, vi p2, vi p3, vi b, vi (3 : Int32), vi l0, vi l1, vi l2, vi (3 : Int32), vi k0, vi k1, vi k2, vr b_801, vr b_979, .unset, .unset] []) := by
        intro t_ k_
        refine go982 t_ ?_
        refine o_astore X979 hx (hb hby at_106) rfl (L' := #[vi p1, vi p2, vi p3, vi b, vi (3 : Int32), vi l0, vi l1, vi l2, vi (3 : Int32), vi k0, vi k1, vi k2, vr b_801, vr b_979, .unset, .unset]) rfl ?_
        exact k_
      obtain ⟨T984, h984, X984, e984, E984, A984, D984, -, st984⟩ := newO X979 hx hZ hown (own_w hw 5 rfl) (own_w hw 6 rfl) (own_w hw 7 rfl) rfl (g := (mkF m 108 #[vi p1, vi p2, vi p3, vi b, vi (3 : Int32), vi l0, vi l1, vi l2, vi (3 : Int32), vi k0, vi k1, vi k2, vr b_801, vr b_979, .unset, .unset] [])) rfl (hb hby at_108) (by decide) (by decide)
      obtain ⟨b984, gz984⟩ : ∃ z, z = T979.heap.size := ⟨_, rfl⟩
      rw [← gz984] at A984 D984 st984
      have F985 : Arv Z T979.heap b_801 kb_801 .int (3 : Int32) [(.int l0), (.int l1), (.int l2)] (.int (0 : Int32)) := (V_801.keep Kc979 nin0)
      have ne986 : b_801 ≠ b984 := Nat.ne_of_lt (Nat.lt_of_lt_of_le F985.lt (Nat.le_of_eq gz984.symm))
      have ne987 : b_979 ≠ b984 := Nat.ne_of_lt (Nat.lt_of_lt_of_le V_979.lt (Nat.le_of_eq gz984.symm))
      have g_b984 : n0 ≤ b984 := Nat.le_trans Z981 (Nat.le_of_eq gz984.symm)
      have Z988 : n0 ≤ h984.size := Nat.le_trans Z981 E984.1
      have F989 : Fld Z h984 b984 c_0 "id" "J" (.long (0 : Int64)) := D984 (Or.inr (own_w hw 21 rfl)) (ty := .long) (by decide)
      have F990 : Fld Z h984 b984 c_0 "power" "J" (.long (0 : Int64)) := D984 (Or.inr (own_w hw 23 rfl)) (ty := .long) (by decide)
      have F991 : Fld Z h984 b984 c_0 "units" "[I" .null := D984 (Or.inr (own_w hw 25 rfl)) (ty := (.array .int)) (by decide)
      have F992 : Fld Z h984 b984 c_0 "licences" "[I" .null := D984 (Or.inr (own_w hw 27 rfl)) (ty := (.array .int)) (by decide)
      have go993 : Go p e below s₁ F0 T984 (mkF m 111 #[vi p1, vi p2, vi p3, vi b, vi (3 : Int32), vi l0, vi l1, vi l2, vi (3 : Int32), vi k0, vi k1, vi k2, vr b_801, vr b_979, .unset, .unset] [(.ref b984)]) := fun t_ k_ => go983 t_ (st984 t_ k_)
      have go994 : Go p e below s₁ F0 T984 (mkF m 117 #[vi p1, vi p2, vi p3, vi b, vi (3 : Int32), vi l0, vi l1, vi l2, vi (3 : Int32), vi k0, vi k1, vi k2, vr b_801, vr b_979, .unset, .unset] [(.int (0 : Int32)), (.long (1000000 : Int64)), (.long (0 : Int64)), (.ref b984), (.ref b984)]) := by
        intro t_ k_
        refine go993 t_ ?_
        refine o_dup X984 hx (hb hby at_111) rfl ?_
        refine o_lconst X984 hx (hb hby at_112) (v := 0) rfl ?_
        refine o_ldc2 X984 hx hown (mvT hZ (own_w hw 8 rfl)) (hb hby at_113) ?_
        refine o_iconst X984 hx (hb hby at_116) (v := 0) rfl ?_
        exact k_
      obtain ⟨T995, h995, k995, X995, e995, E995, A995, st995⟩ := newP X984 hx hZ (own_w hw 4 rfl) e984 (g := (mkF m 117 #[vi p1, vi p2, vi p3, vi b, vi (3 : Int32), vi l0, vi l1, vi l2, vi (3 : Int32), vi k0, vi k1, vi k2, vr b_801, vr b_979, .unset, .unset] [(.int (0 : Int32)), (.long (1000000 : Int64)), (.long (0 : Int64)), (.ref b984), (.ref b984)])) rfl (hb hby at_117) rfl (by decide) (cap := 0) (by decide) (by decide) (by decide) (by decide)
      obtain ⟨b995, gz995⟩ : ∃ z, z = h984.size := ⟨_, rfl⟩
      rw [← gz995] at A995 st995
      have F996 : Arv Z h984 b_801 kb_801 .int (3 : Int32) [(.int l0), (.int l1), (.int l2)] (.int (0 : Int32)) := (F985.ext E984)
      have ne997 : b_801 ≠ b995 := Nat.ne_of_lt (Nat.lt_of_lt_of_le F996.lt (Nat.le_of_eq gz995.symm))
      have F998 : Arv Z h984 b_979 kb_979 .int (3 : Int32) [(.int k0), (.int k1), (.int k2)] (.int (0 : Int32)) := (V_979.ext E984)
      have ne999 : b_979 ≠ b995 := Nat.ne_of_lt (Nat.lt_of_lt_of_le F998.lt (Nat.le_of_eq gz995.symm))
      have ne1000 : b984 ≠ b995 := Nat.ne_of_lt (Nat.lt_of_lt_of_le A984.lt (Nat.le_of_eq gz995.symm))
      have g_b995 : n0 ≤ b995 := Nat.le_trans Z988 (Nat.le_of_eq gz995.symm)
      have Z1001 : n0 ≤ h995.size := Nat.le_trans Z988 E995.1
      have V995 : Arv Z h995 b995 k995 .int (0 : Int32) [] (.int (0 : Int32)) := (Arv.new A995 (by decide)).pad (pad_rep [] (.int (0 : Int32)) 0)
      have go1002 : Go p e below s₁ F0 T995 (mkF m 119 #[vi p1, vi p2, vi p3, vi b, vi (3 : Int32), vi l0, vi l1, vi l2, vi (3 : Int32), vi k0, vi k1, vi k2, vr b_801, vr b_979, .unset, .unset] [(.ref b995), (.long (1000000 : Int64)), (.long (0 : Int64)), (.ref b984), (.ref b984)]) := fun t_ k_ => go994 t_ (st995 t_ k_)
      have F1003 : Exa Z h995 b984 c_0 := (A984.ext E995)
      have F1004 : Fld Z h995 b984 c_0 "id" "J" (.long (0 : Int64)) := (F989.ext E995)
      have F1005 : Fld Z h995 b984 c_0 "power" "J" (.long (0 : Int64)) := (F990.ext E995)
      have F1006 : Fld Z h995 b984 c_0 "units" "[I" .null := (F991.ext E995)
      have F1007 : Fld Z h995 b984 c_0 "licences" "[I" .null := (F992.ext E995)
      have go1008 : Go p e below s₁ F0 T995 (mkF m 121 #[vi p1, vi p2, vi p3, vi b, vi (3 : Int32), vi l0, vi l1, vi l2, vi (3 : Int32), vi k0, vi k1, vi k2, vr b_801, vr b_979, .unset, .unset] [(.ref b_801), (.ref b995), (.long (1000000 : Int64)), (.long (0 : Int64)), (.ref b984), (.ref b984)]) := by
        intro t_ k_
        refine go1002 t_ ?_
        refine o_aload X995 hx (hb hby at_119) rfl rfl ?_
        exact k_
      obtain ⟨_, _, ⟨T1009, L1009, k1009, n1009⟩, -, X1009, ⟨Lc1009, hQ1009, l1009, y1009, z1009⟩, st1009⟩ := X995.specialBack hx (y := y_2) rfl hown (mvT hZ (own_w hw 9 rfl)) (mvT hZ (own_w hw 10 rfl)) (mvT hZ (own_w hw 11 rfl)) (by decide) (backOf (W := 1) (rm2 l Z a0 hw [] b984 (0 : Int64) (1000000 : Int64) b995 b_801 h995 n0 Z1001 F1003 F1004 F1005 F1006 F1007 g_b984) hZ (own_w hw 11 rfl) (own_w hw 7 rfl) (by decide) (by decide)) (g := (mkF m 121 #[vi p1, vi p2, vi p3, vi b, vi (3 : Int32), vi l0, vi l1, vi l2, vi (3 : Int32), vi k0, vi k1, vi k2, vr b_801, vr b_979, .unset, .unset] [(.ref b_801), (.ref b995), (.long (1000000 : Int64)), (.long (0 : Int64)), (.ref b984), (.ref b984)])) rfl (by rw [hml]; rfl) (Steps.refl _) (a := b984) (argsL := [(.long (0 : Int64)), (.long (1000000 : Int64)), (.ref b995), (.ref b_801)]) (rest := [(.ref b984)]) (lenOf pd0_1 rfl) rfl (by show 2 * 0 + _ ≤ _; exact Nat.le_of_eq rfl) (hb hby at_121) (fun _ _ => ⟨rfl, e995, (by decide : 4 + 0 ≤ _), (by decide : 10 + 0 ≤ _)⟩)
      dsimp only [Pt.U, Pt.locs, Pt.cells, Pt.slots] at X1009 l1009 y1009 z1009 st1009 hQ1009
      subst l1009 y1009 z1009
      obtain ⟨rfl, Nq1009, Kc1009, F4_1009⟩ := hQ1009
      have N1009 := Fr.app N979 Nq1009
      have Z1010 : n0 ≤ T1009.heap.size := Nat.le_trans Z1001 Kc1009.1
      have go1011 : Go p e below s₁ F0 T1009 (mkF m 124 #[vi p1, vi p2, vi p3, vi b, vi (3 : Int32), vi l0, vi l1, vi l2, vi (3 : Int32), vi k0, vi k1, vi k2, vr b_801, vr b_979, .unset, .unset] [(.ref b984)]) := fun t_ k_ => go1008 t_ (st1009.trans k_)
      have go1012 : Go p e below s₁ F0 T1009 (mkF m 142 #[vi p1, vi p2, vi p3, vi b, vi (3 : Int32), vi l0, vi l1, vi l2, vi (3 : Int32), vi k0, vi k1, vi k2, vr b_801, vr b_979, vr b984, .unset] [(.int k0), (.int l2), (.int l1), (.int l0), (.int (3 : Int32))]) := by
        intro t_ k_
        refine go1011 t_ ?_
        refine o_astore X1009 hx (hb hby at_124) rfl (L' := #[vi p1, vi p2, vi p3, vi b, vi (3 : Int32), vi l0, vi l1, vi l2, vi (3 : Int32), vi k0, vi k1, vi k2, vr b_801, vr b_979, vr b984, .unset]) rfl ?_
        refine o_iload X1009 hx (hb hby at_126) rfl ?_
        refine o_iconst X1009 hx (hb hby at_128) (v := 1) rfl ?_
        refine o_icmpNo X1009 hx (hb hby at_129) (flt (by decide : ¬ ((3 : Int32) < (1 : Int32)))).1 ?_
        refine o_iload X1009 hx (hb hby at_132) rfl ?_
        refine o_iload X1009 hx (hb hby at_134) rfl ?_
        refine o_iload X1009 hx (hb hby at_136) rfl ?_
        refine o_iload X1009 hx (hb hby at_138) rfl ?_
        refine o_iload X1009 hx (hb hby at_140) rfl ?_
        exact k_
      obtain ⟨_, _, ⟨T1013, L1013, k1013, n1013⟩, -, X1013, ⟨Lc1013, hQ1013, l1013, y1013, z1013⟩, st1013⟩ := Jvm.LawKit.callS X1009 hx (y := y_3) hown (mvT hZ (own_w hw 28 rfl)) (mvT hZ (own_w hw 29 rfl)) (mvT hZ (own_w hw 2 rfl)) (mvT hZ (own_w hw 30 rfl)) (by decide) (backOf (W := 0) (rm5_3 l Z a0 hw [] l0 l1 l2 k0 (T1009.heap) n0 Z1010 ) hZ (own_w hw 30 rfl) (own_w hw 2 rfl) (by decide) (by decide)) (g := (mkF m 142 #[vi p1, vi p2, vi p3, vi b, vi (3 : Int32), vi l0, vi l1, vi l2, vi (3 : Int32), vi k0, vi k1, vi k2, vr b_801, vr b_979, vr b984, .unset] [(.int k0), (.int l2), (.int l1), (.int l0), (.int (3 : Int32))])) rfl (by rw [hml]; rfl) (argsL := [(.int (3 : Int32)), (.int l0), (.int l1), (.int l2), (.int k0)]) (rest := []) (lenOf pd0_3 rfl) rfl (by show 2 * 0 + _ ≤ _; exact Nat.le_of_eq rfl) (hb hby at_142) (fun _ _ => ⟨rfl, rfl, (by decide : 4 + 0 ≤ _), (by decide : 10 + 0 ≤ _)⟩)
      dsimp only [Pt.U, Pt.locs, Pt.cells, Pt.slots] at X1013 l1013 y1013 z1013 st1013 hQ1013
      subst l1013 y1013 z1013
      obtain ⟨rfl, Nq1013, eh1013⟩ := hQ1013
      have N1013 := Fr.app N1009 Nq1013
      have go1014 : Go p e below s₁ F0 T1013 (mkF m 145 #[vi p1, vi p2, vi p3, vi b, vi (3 : Int32), vi l0, vi l1, vi l2, vi (3 : Int32), vi k0, vi k1, vi k2, vr b_801, vr b_979, vr b984, .unset] [(.int (f5_3 l0 l1 l2 k0))]) := fun t_ k_ => go1012 t_ (st1013 t_ k_)
      by_cases hc145_1015 : (f5_3 l0 l1 l2 k0) = (0 : Int32)
      · skip
        have F1016 : Arv Z T1009.heap b_801 kb_801 .int (3 : Int32) [(.int l0), (.int l1), (.int l2)] (.int (0 : Int32)) := ((F996.ext E995).keep Kc1009 (ninS ne986 nin0))
        have F1017 : Arv Z T1009.heap b_979 kb_979 .int (3 : Int32) [(.int k0), (.int k1), (.int k2)] (.int (0 : Int32)) := ((F998.ext E995).keep Kc1009 (ninS ne987 nin0))
        have go1018 : Go p e below s₁ F0 T1013 (mkF m 203 #[vi p1, vi p2, vi p3, vi b, vi (3 : Int32), vi l0, vi l1, vi l2, vi (3 : Int32), vi k0, vi k1, vi k2, vr b_801, vr b_979, vr b984, vi (0 : Int32)] [(.ref b_979), (.ref b984)]) := by
          intro t_ k_
          refine go1014 t_ ?_
          refine o_ifYes X1013 hx (hb hby at_145) (pc' := 196) rfl (by decide) ((if0 _ _).trans (teq hc145_1015).1) ?_
          refine o_iconst X1013 hx (hb hby at_196) (v := 0) rfl ?_
          refine o_istore X1013 hx (hb hby at_197) (L' := #[vi p1, vi p2, vi p3, vi b, vi (3 : Int32), vi l0, vi l1, vi l2, vi (3 : Int32), vi k0, vi k1, vi k2, vr b_801, vr b_979, vr b984, vi (0 : Int32)]) rfl ?_
          refine o_aload X1013 hx (hb hby at_199) rfl rfl ?_
          refine o_aload X1013 hx (hb hby at_201) rfl rfl ?_
          exact k_
        have F1020 : Exa Z T1009.heap b984 c_0 := (F1003.keep Kc1009)
        obtain ⟨cq1019, kq1019, q1019a, q1019b, q1019c⟩ := isOf hZ eh1013 F1020
        obtain ⟨_, _, ⟨T1019, L1019, k1019, n1019⟩, -, X1019, ⟨Lc1019, hQ1019, l1019, y1019, z1019⟩, st1019⟩ := X1013.virtualBack hx (y := y_4) (z := y_4) hown (mvT hZ (own_w hw 31 rfl)) (mvT hZ (own_w hw 32 rfl)) (notFace_of_selects (args := #[]) (mvT hZ (own_w hw 34 rfl))) (mvT hZ (own_w hw 34 rfl)) (mvT hZ (own_w hw 33 rfl)) (by decide) (backOf (W := 0) (rm6_3_3 l Z a0 hw [] b984 b_979 b_801 kb_801 kb_979 l0 l1 l2 k0 k1 k2 (T1009.heap) n0 Z1010 F4_1009 F1016 F1017 (own_s0 h_b h_k0 h_k1) (own_s1 h_b h_k0 h_k1 h_k2)) hZ (own_w hw 35 rfl) (own_w hw 7 rfl) (by decide) (by decide)) q1019a q1019c (g := (mkF m 203 #[vi p1, vi p2, vi p3, vi b, vi (3 : Int32), vi l0, vi l1, vi l2, vi (3 : Int32), vi k0, vi k1, vi k2, vr b_801, vr b_979, vr b984, vi (0 : Int32)] [(.ref b_979), (.ref b984)])) rfl (by rw [hml]; rfl) (Steps.refl _) (argsL := [(.ref b_979)]) (rest := []) (lenOf pd0_2 rfl) rfl (by show 2 * 0 + _ ≤ _; exact Nat.le_of_eq rfl) (hb hby at_203) (fun _ _ => ⟨rfl, eh1013, (by decide : 4 + 0 ≤ _), (by decide : 10 + 0 ≤ _)⟩)
        dsimp only [Pt.U, Pt.locs, Pt.cells, Pt.slots] at X1019 l1019 y1019 z1019 st1019 hQ1019
        subst l1019 y1019 z1019
        obtain ⟨rfl, Nq1019, eh1019⟩ := hQ1019
        have N1019 := Fr.app N1013 Nq1019
        have go1021 : Go p e below s₁ F0 T1019 (mkF m 206 #[vi p1, vi p2, vi p3, vi b, vi (3 : Int32), vi l0, vi l1, vi l2, vi (3 : Int32), vi k0, vi k1, vi k2, vr b_801, vr b_979, vr b984, vi (0 : Int32)] [(.int (f6_3_3 l0 l1 l2 k0 k1 k2))]) := fun t_ k_ => go1018 t_ (st1019.trans k_)
        have go1023 : Go p e below s₁ F0 T1019 (mkF m 208 #[vi p1, vi p2, vi p3, vi b, vi (3 : Int32), vi l0, vi l1, vi l2, vi (3 : Int32), vi k0, vi k1, vi k2, vr b_801, vr b_979, vr b984, vi (0 : Int32)] [(.int (0 : Int32)), (.int (f6_3_3 l0 l1 l2 k0 k1 k2))]) := by
          intro t_ k_
          refine go1021 t_ ?_
          refine o_iload X1019 hx (hb hby at_206) rfl ?_
          exact k_
        have hd1022 : (f6_3_3 l0 l1 l2 k0 k1 k2) = (0 : Int32) := own_no_3_3_0 l0 l1 l2 k0 k1 k2 (own_s0 h_b h_l0 h_l1) (own_s1 h_b h_l0 h_l1 h_l2) (own_s0 h_b h_k0 h_k1) (own_s1 h_b h_k0 h_k1 h_k2) hc145_1015
        have go1024 : Go p e below s₁ F0 T1019 (mkF m 216 #[vi p1, vi p2, vi p3, vi b, vi (3 : Int32), vi l0, vi l1, vi l2, vi (3 : Int32), vi k0, vi k1, vi k2, vr b_801, vr b_979, vr b984, vi (0 : Int32)] [(.int (1 : Int32))]) := by
          intro t_ k_
          refine go1023 t_ ?_
          refine o_icmpNo X1019 hx (hb hby at_208) (teq hd1022).2 ?_
          refine o_iconst X1019 hx (hb hby at_211) (v := 1) rfl ?_
          refine o_goto X1019 hx (hb hby at_212) (pc' := 216) rfl (by decide) ?_
          exact k_
        obtain ⟨fs, hr, hrun, hended, hW, hsame⟩ := X1019.leave (v := some (.int (1 : Int32))) (fun h => by rw [Bd.returns] at h; cases h)
        refine ⟨_, _, pre0 _ (go1024 _ ?_), hrun, hended, _, _, rfl, ?_, ⟨_, rfl⟩, hW, hsame.mono (by decide) (by decide)⟩
        · skip
          exact retN X1019 hx (t := .boolean) Bd.returns (by simp) (hb hby at_216) hr
        · show Q0 Z p1 p2 p3 h0 n0 _ T1019.heap _
          rw [eh1019]
          exact ⟨rfl, N1019⟩
      · skip
        have go1025 : Go p e below s₁ F0 T1013 (mkF m 164 #[vi p1, vi p2, vi p3, vi b, vi (3 : Int32), vi l0, vi l1, vi l2, vi (3 : Int32), vi k0, vi k1, vi k2, vr b_801, vr b_979, vr b984, .unset] [(.int k1), (.int l2), (.int l1), (.int l0), (.int (3 : Int32))]) := by
          intro t_ k_
          refine go1014 t_ ?_
          refine o_ifNo X1013 hx (hb hby at_145) ((if0 _ _).trans (feq hc145_1015).1) ?_
          refine o_iload X1013 hx (hb hby at_148) rfl ?_
          refine o_iconst X1013 hx (hb hby at_150) (v := 2) rfl ?_
          refine o_icmpNo X1013 hx (hb hby at_151) (flt (by decide : ¬ ((3 : Int32) < (2 : Int32)))).1 ?_
          refine o_iload X1013 hx (hb hby at_154) rfl ?_
          refine o_iload X1013 hx (hb hby at_156) rfl ?_
          refine o_iload X1013 hx (hb hby at_158) rfl ?_
          refine o_iload X1013 hx (hb hby at_160) rfl ?_
          refine o_iload X1013 hx (hb hby at_162) rfl ?_
          exact k_
        obtain ⟨_, _, ⟨T1026, L1026, k1026, n1026⟩, -, X1026, ⟨Lc1026, hQ1026, l1026, y1026, z1026⟩, st1026⟩ := Jvm.LawKit.callS X1013 hx (y := y_3) hown (mvT hZ (own_w hw 28 rfl)) (mvT hZ (own_w hw 29 rfl)) (mvT hZ (own_w hw 2 rfl)) (mvT hZ (own_w hw 30 rfl)) (by decide) (backOf (W := 0) (rm5_3 l Z a0 hw [] l0 l1 l2 k1 (T1009.heap) n0 Z1010 ) hZ (own_w hw 30 rfl) (own_w hw 2 rfl) (by decide) (by decide)) (g := (mkF m 164 #[vi p1, vi p2, vi p3, vi b, vi (3 : Int32), vi l0, vi l1, vi l2, vi (3 : Int32), vi k0, vi k1, vi k2, vr b_801, vr b_979, vr b984, .unset] [(.int k1), (.int l2), (.int l1), (.int l0), (.int (3 : Int32))])) rfl (by rw [hml]; rfl) (argsL := [(.int (3 : Int32)), (.int l0), (.int l1), (.int l2), (.int k1)]) (rest := []) (lenOf pd0_3 rfl) rfl (by show 2 * 0 + _ ≤ _; exact Nat.le_of_eq rfl) (hb hby at_164) (fun _ _ => ⟨rfl, eh1013, (by decide : 4 + 0 ≤ _), (by decide : 10 + 0 ≤ _)⟩)
        dsimp only [Pt.U, Pt.locs, Pt.cells, Pt.slots] at X1026 l1026 y1026 z1026 st1026 hQ1026
        subst l1026 y1026 z1026
        obtain ⟨rfl, Nq1026, eh1026⟩ := hQ1026
        have N1026 := Fr.app N1013 Nq1026
        have go1027 : Go p e below s₁ F0 T1026 (mkF m 167 #[vi p1, vi p2, vi p3, vi b, vi (3 : Int32), vi l0, vi l1, vi l2, vi (3 : Int32), vi k0, vi k1, vi k2, vr b_801, vr b_979, vr b984, .unset] [(.int (f5_3 l0 l1 l2 k1))]) := fun t_ k_ => go1025 t_ (st1026 t_ k_)
        by_cases hc167_1028 : (f5_3 l0 l1 l2 k1) = (0 : Int32)
        · skip
          have F1029 : Arv Z T1009.heap b_801 kb_801 .int (3 : Int32) [(.int l0), (.int l1), (.int l2)] (.int (0 : Int32)) := ((F996.ext E995).keep Kc1009 (ninS ne986 nin0))
          have F1030 : Arv Z T1009.heap b_979 kb_979 .int (3 : Int32) [(.int k0), (.int k1), (.int k2)] (.int (0 : Int32)) := ((F998.ext E995).keep Kc1009 (ninS ne987 nin0))
          have go1031 : Go p e below s₁ F0 T1026 (mkF m 203 #[vi p1, vi p2, vi p3, vi b, vi (3 : Int32), vi l0, vi l1, vi l2, vi (3 : Int32), vi k0, vi k1, vi k2, vr b_801, vr b_979, vr b984, vi (0 : Int32)] [(.ref b_979), (.ref b984)]) := by
            intro t_ k_
            refine go1027 t_ ?_
            refine o_ifYes X1026 hx (hb hby at_167) (pc' := 196) rfl (by decide) ((if0 _ _).trans (teq hc167_1028).1) ?_
            refine o_iconst X1026 hx (hb hby at_196) (v := 0) rfl ?_
            refine o_istore X1026 hx (hb hby at_197) (L' := #[vi p1, vi p2, vi p3, vi b, vi (3 : Int32), vi l0, vi l1, vi l2, vi (3 : Int32), vi k0, vi k1, vi k2, vr b_801, vr b_979, vr b984, vi (0 : Int32)]) rfl ?_
            refine o_aload X1026 hx (hb hby at_199) rfl rfl ?_
            refine o_aload X1026 hx (hb hby at_201) rfl rfl ?_
            exact k_
          have F1033 : Exa Z T1009.heap b984 c_0 := (F1003.keep Kc1009)
          obtain ⟨cq1032, kq1032, q1032a, q1032b, q1032c⟩ := isOf hZ eh1026 F1033
          obtain ⟨_, _, ⟨T1032, L1032, k1032, n1032⟩, -, X1032, ⟨Lc1032, hQ1032, l1032, y1032, z1032⟩, st1032⟩ := X1026.virtualBack hx (y := y_4) (z := y_4) hown (mvT hZ (own_w hw 31 rfl)) (mvT hZ (own_w hw 32 rfl)) (notFace_of_selects (args := #[]) (mvT hZ (own_w hw 34 rfl))) (mvT hZ (own_w hw 34 rfl)) (mvT hZ (own_w hw 33 rfl)) (by decide) (backOf (W := 0) (rm6_3_3 l Z a0 hw [] b984 b_979 b_801 kb_801 kb_979 l0 l1 l2 k0 k1 k2 (T1009.heap) n0 Z1010 F4_1009 F1029 F1030 (own_s0 h_b h_k0 h_k1) (own_s1 h_b h_k0 h_k1 h_k2)) hZ (own_w hw 35 rfl) (own_w hw 7 rfl) (by decide) (by decide)) q1032a q1032c (g := (mkF m 203 #[vi p1, vi p2, vi p3, vi b, vi (3 : Int32), vi l0, vi l1, vi l2, vi (3 : Int32), vi k0, vi k1, vi k2, vr b_801, vr b_979, vr b984, vi (0 : Int32)] [(.ref b_979), (.ref b984)])) rfl (by rw [hml]; rfl) (Steps.refl _) (argsL := [(.ref b_979)]) (rest := []) (lenOf pd0_2 rfl) rfl (by show 2 * 0 + _ ≤ _; exact Nat.le_of_eq rfl) (hb hby at_203) (fun _ _ => ⟨rfl, eh1026, (by decide : 4 + 0 ≤ _), (by decide : 10 + 0 ≤ _)⟩)
          dsimp only [Pt.U, Pt.locs, Pt.cells, Pt.slots] at X1032 l1032 y1032 z1032 st1032 hQ1032
          subst l1032 y1032 z1032
          obtain ⟨rfl, Nq1032, eh1032⟩ := hQ1032
          have N1032 := Fr.app N1026 Nq1032
          have go1034 : Go p e below s₁ F0 T1032 (mkF m 206 #[vi p1, vi p2, vi p3, vi b, vi (3 : Int32), vi l0, vi l1, vi l2, vi (3 : Int32), vi k0, vi k1, vi k2, vr b_801, vr b_979, vr b984, vi (0 : Int32)] [(.int (f6_3_3 l0 l1 l2 k0 k1 k2))]) := fun t_ k_ => go1031 t_ (st1032.trans k_)
          have go1036 : Go p e below s₁ F0 T1032 (mkF m 208 #[vi p1, vi p2, vi p3, vi b, vi (3 : Int32), vi l0, vi l1, vi l2, vi (3 : Int32), vi k0, vi k1, vi k2, vr b_801, vr b_979, vr b984, vi (0 : Int32)] [(.int (0 : Int32)), (.int (f6_3_3 l0 l1 l2 k0 k1 k2))]) := by
            intro t_ k_
            refine go1034 t_ ?_
            refine o_iload X1032 hx (hb hby at_206) rfl ?_
            exact k_
          have hd1035 : (f6_3_3 l0 l1 l2 k0 k1 k2) = (0 : Int32) := own_no_3_3_1 l0 l1 l2 k0 k1 k2 (own_s0 h_b h_l0 h_l1) (own_s1 h_b h_l0 h_l1 h_l2) (own_s0 h_b h_k0 h_k1) (own_s1 h_b h_k0 h_k1 h_k2) hc167_1028
          have go1037 : Go p e below s₁ F0 T1032 (mkF m 216 #[vi p1, vi p2, vi p3, vi b, vi (3 : Int32), vi l0, vi l1, vi l2, vi (3 : Int32), vi k0, vi k1, vi k2, vr b_801, vr b_979, vr b984, vi (0 : Int32)] [(.int (1 : Int32))]) := by
            intro t_ k_
            refine go1036 t_ ?_
            refine o_icmpNo X1032 hx (hb hby at_208) (teq hd1035).2 ?_
            refine o_iconst X1032 hx (hb hby at_211) (v := 1) rfl ?_
            refine o_goto X1032 hx (hb hby at_212) (pc' := 216) rfl (by decide) ?_
            exact k_
          obtain ⟨fs, hr, hrun, hended, hW, hsame⟩ := X1032.leave (v := some (.int (1 : Int32))) (fun h => by rw [Bd.returns] at h; cases h)
          refine ⟨_, _, pre0 _ (go1037 _ ?_), hrun, hended, _, _, rfl, ?_, ⟨_, rfl⟩, hW, hsame.mono (by decide) (by decide)⟩
          · skip
            exact retN X1032 hx (t := .boolean) Bd.returns (by simp) (hb hby at_216) hr
          · show Q0 Z p1 p2 p3 h0 n0 _ T1032.heap _
            rw [eh1032]
            exact ⟨rfl, N1032⟩
        · skip
          have go1038 : Go p e below s₁ F0 T1026 (mkF m 186 #[vi p1, vi p2, vi p3, vi b, vi (3 : Int32), vi l0, vi l1, vi l2, vi (3 : Int32), vi k0, vi k1, vi k2, vr b_801, vr b_979, vr b984, .unset] [(.int k2), (.int l2), (.int l1), (.int l0), (.int (3 : Int32))]) := by
            intro t_ k_
            refine go1027 t_ ?_
            refine o_ifNo X1026 hx (hb hby at_167) ((if0 _ _).trans (feq hc167_1028).1) ?_
            refine o_iload X1026 hx (hb hby at_170) rfl ?_
            refine o_iconst X1026 hx (hb hby at_172) (v := 3) rfl ?_
            refine o_icmpNo X1026 hx (hb hby at_173) (flt (by decide : ¬ ((3 : Int32) < (3 : Int32)))).1 ?_
            refine o_iload X1026 hx (hb hby at_176) rfl ?_
            refine o_iload X1026 hx (hb hby at_178) rfl ?_
            refine o_iload X1026 hx (hb hby at_180) rfl ?_
            refine o_iload X1026 hx (hb hby at_182) rfl ?_
            refine o_iload X1026 hx (hb hby at_184) rfl ?_
            exact k_
          obtain ⟨_, _, ⟨T1039, L1039, k1039, n1039⟩, -, X1039, ⟨Lc1039, hQ1039, l1039, y1039, z1039⟩, st1039⟩ := Jvm.LawKit.callS X1026 hx (y := y_3) hown (mvT hZ (own_w hw 28 rfl)) (mvT hZ (own_w hw 29 rfl)) (mvT hZ (own_w hw 2 rfl)) (mvT hZ (own_w hw 30 rfl)) (by decide) (backOf (W := 0) (rm5_3 l Z a0 hw [] l0 l1 l2 k2 (T1009.heap) n0 Z1010 ) hZ (own_w hw 30 rfl) (own_w hw 2 rfl) (by decide) (by decide)) (g := (mkF m 186 #[vi p1, vi p2, vi p3, vi b, vi (3 : Int32), vi l0, vi l1, vi l2, vi (3 : Int32), vi k0, vi k1, vi k2, vr b_801, vr b_979, vr b984, .unset] [(.int k2), (.int l2), (.int l1), (.int l0), (.int (3 : Int32))])) rfl (by rw [hml]; rfl) (argsL := [(.int (3 : Int32)), (.int l0), (.int l1), (.int l2), (.int k2)]) (rest := []) (lenOf pd0_3 rfl) rfl (by show 2 * 0 + _ ≤ _; exact Nat.le_of_eq rfl) (hb hby at_186) (fun _ _ => ⟨rfl, eh1026, (by decide : 4 + 0 ≤ _), (by decide : 10 + 0 ≤ _)⟩)
          dsimp only [Pt.U, Pt.locs, Pt.cells, Pt.slots] at X1039 l1039 y1039 z1039 st1039 hQ1039
          subst l1039 y1039 z1039
          obtain ⟨rfl, Nq1039, eh1039⟩ := hQ1039
          have N1039 := Fr.app N1026 Nq1039
          have go1040 : Go p e below s₁ F0 T1039 (mkF m 189 #[vi p1, vi p2, vi p3, vi b, vi (3 : Int32), vi l0, vi l1, vi l2, vi (3 : Int32), vi k0, vi k1, vi k2, vr b_801, vr b_979, vr b984, .unset] [(.int (f5_3 l0 l1 l2 k2))]) := fun t_ k_ => go1038 t_ (st1039 t_ k_)
          by_cases hc189_1041 : (f5_3 l0 l1 l2 k2) = (0 : Int32)
          · skip
            have F1042 : Arv Z T1009.heap b_801 kb_801 .int (3 : Int32) [(.int l0), (.int l1), (.int l2)] (.int (0 : Int32)) := ((F996.ext E995).keep Kc1009 (ninS ne986 nin0))
            have F1043 : Arv Z T1009.heap b_979 kb_979 .int (3 : Int32) [(.int k0), (.int k1), (.int k2)] (.int (0 : Int32)) := ((F998.ext E995).keep Kc1009 (ninS ne987 nin0))
            have go1044 : Go p e below s₁ F0 T1039 (mkF m 203 #[vi p1, vi p2, vi p3, vi b, vi (3 : Int32), vi l0, vi l1, vi l2, vi (3 : Int32), vi k0, vi k1, vi k2, vr b_801, vr b_979, vr b984, vi (0 : Int32)] [(.ref b_979), (.ref b984)]) := by
              intro t_ k_
              refine go1040 t_ ?_
              refine o_ifYes X1039 hx (hb hby at_189) (pc' := 196) rfl (by decide) ((if0 _ _).trans (teq hc189_1041).1) ?_
              refine o_iconst X1039 hx (hb hby at_196) (v := 0) rfl ?_
              refine o_istore X1039 hx (hb hby at_197) (L' := #[vi p1, vi p2, vi p3, vi b, vi (3 : Int32), vi l0, vi l1, vi l2, vi (3 : Int32), vi k0, vi k1, vi k2, vr b_801, vr b_979, vr b984, vi (0 : Int32)]) rfl ?_
              refine o_aload X1039 hx (hb hby at_199) rfl rfl ?_
              refine o_aload X1039 hx (hb hby at_201) rfl rfl ?_
              exact k_
            have F1046 : Exa Z T1009.heap b984 c_0 := (F1003.keep Kc1009)
            obtain ⟨cq1045, kq1045, q1045a, q1045b, q1045c⟩ := isOf hZ eh1039 F1046
            obtain ⟨_, _, ⟨T1045, L1045, k1045, n1045⟩, -, X1045, ⟨Lc1045, hQ1045, l1045, y1045, z1045⟩, st1045⟩ := X1039.virtualBack hx (y := y_4) (z := y_4) hown (mvT hZ (own_w hw 31 rfl)) (mvT hZ (own_w hw 32 rfl)) (notFace_of_selects (args := #[]) (mvT hZ (own_w hw 34 rfl))) (mvT hZ (own_w hw 34 rfl)) (mvT hZ (own_w hw 33 rfl)) (by decide) (backOf (W := 0) (rm6_3_3 l Z a0 hw [] b984 b_979 b_801 kb_801 kb_979 l0 l1 l2 k0 k1 k2 (T1009.heap) n0 Z1010 F4_1009 F1042 F1043 (own_s0 h_b h_k0 h_k1) (own_s1 h_b h_k0 h_k1 h_k2)) hZ (own_w hw 35 rfl) (own_w hw 7 rfl) (by decide) (by decide)) q1045a q1045c (g := (mkF m 203 #[vi p1, vi p2, vi p3, vi b, vi (3 : Int32), vi l0, vi l1, vi l2, vi (3 : Int32), vi k0, vi k1, vi k2, vr b_801, vr b_979, vr b984, vi (0 : Int32)] [(.ref b_979), (.ref b984)])) rfl (by rw [hml]; rfl) (Steps.refl _) (argsL := [(.ref b_979)]) (rest := []) (lenOf pd0_2 rfl) rfl (by show 2 * 0 + _ ≤ _; exact Nat.le_of_eq rfl) (hb hby at_203) (fun _ _ => ⟨rfl, eh1039, (by decide : 4 + 0 ≤ _), (by decide : 10 + 0 ≤ _)⟩)
            dsimp only [Pt.U, Pt.locs, Pt.cells, Pt.slots] at X1045 l1045 y1045 z1045 st1045 hQ1045
            subst l1045 y1045 z1045
            obtain ⟨rfl, Nq1045, eh1045⟩ := hQ1045
            have N1045 := Fr.app N1039 Nq1045
            have go1047 : Go p e below s₁ F0 T1045 (mkF m 206 #[vi p1, vi p2, vi p3, vi b, vi (3 : Int32), vi l0, vi l1, vi l2, vi (3 : Int32), vi k0, vi k1, vi k2, vr b_801, vr b_979, vr b984, vi (0 : Int32)] [(.int (f6_3_3 l0 l1 l2 k0 k1 k2))]) := fun t_ k_ => go1044 t_ (st1045.trans k_)
            have go1049 : Go p e below s₁ F0 T1045 (mkF m 208 #[vi p1, vi p2, vi p3, vi b, vi (3 : Int32), vi l0, vi l1, vi l2, vi (3 : Int32), vi k0, vi k1, vi k2, vr b_801, vr b_979, vr b984, vi (0 : Int32)] [(.int (0 : Int32)), (.int (f6_3_3 l0 l1 l2 k0 k1 k2))]) := by
              intro t_ k_
              refine go1047 t_ ?_
              refine o_iload X1045 hx (hb hby at_206) rfl ?_
              exact k_
            have hd1048 : (f6_3_3 l0 l1 l2 k0 k1 k2) = (0 : Int32) := own_no_3_3_2 l0 l1 l2 k0 k1 k2 (own_s0 h_b h_l0 h_l1) (own_s1 h_b h_l0 h_l1 h_l2) (own_s0 h_b h_k0 h_k1) (own_s1 h_b h_k0 h_k1 h_k2) hc189_1041
            have go1050 : Go p e below s₁ F0 T1045 (mkF m 216 #[vi p1, vi p2, vi p3, vi b, vi (3 : Int32), vi l0, vi l1, vi l2, vi (3 : Int32), vi k0, vi k1, vi k2, vr b_801, vr b_979, vr b984, vi (0 : Int32)] [(.int (1 : Int32))]) := by
              intro t_ k_
              refine go1049 t_ ?_
              refine o_icmpNo X1045 hx (hb hby at_208) (teq hd1048).2 ?_
              refine o_iconst X1045 hx (hb hby at_211) (v := 1) rfl ?_
              refine o_goto X1045 hx (hb hby at_212) (pc' := 216) rfl (by decide) ?_
              exact k_
            obtain ⟨fs, hr, hrun, hended, hW, hsame⟩ := X1045.leave (v := some (.int (1 : Int32))) (fun h => by rw [Bd.returns] at h; cases h)
            refine ⟨_, _, pre0 _ (go1050 _ ?_), hrun, hended, _, _, rfl, ?_, ⟨_, rfl⟩, hW, hsame.mono (by decide) (by decide)⟩
            · skip
              exact retN X1045 hx (t := .boolean) Bd.returns (by simp) (hb hby at_216) hr
            · show Q0 Z p1 p2 p3 h0 n0 _ T1045.heap _
              rw [eh1045]
              exact ⟨rfl, N1045⟩
          · skip
            have F1051 : Arv Z T1009.heap b_801 kb_801 .int (3 : Int32) [(.int l0), (.int l1), (.int l2)] (.int (0 : Int32)) := ((F996.ext E995).keep Kc1009 (ninS ne986 nin0))
            have F1052 : Arv Z T1009.heap b_979 kb_979 .int (3 : Int32) [(.int k0), (.int k1), (.int k2)] (.int (0 : Int32)) := ((F998.ext E995).keep Kc1009 (ninS ne987 nin0))
            have go1053 : Go p e below s₁ F0 T1039 (mkF m 203 #[vi p1, vi p2, vi p3, vi b, vi (3 : Int32), vi l0, vi l1, vi l2, vi (3 : Int32), vi k0, vi k1, vi k2, vr b_801, vr b_979, vr b984, vi (1 : Int32)] [(.ref b_979), (.ref b984)]) := by
              intro t_ k_
              refine go1040 t_ ?_
              refine o_ifNo X1039 hx (hb hby at_189) ((if0 _ _).trans (feq hc189_1041).1) ?_
              refine o_iconst X1039 hx (hb hby at_192) (v := 1) rfl ?_
              refine o_goto X1039 hx (hb hby at_193) (pc' := 197) rfl (by decide) ?_
              refine o_istore X1039 hx (hb hby at_197) (L' := #[vi p1, vi p2, vi p3, vi b, vi (3 : Int32), vi l0, vi l1, vi l2, vi (3 : Int32), vi k0, vi k1, vi k2, vr b_801, vr b_979, vr b984, vi (1 : Int32)]) rfl ?_
              refine o_aload X1039 hx (hb hby at_199) rfl rfl ?_
              refine o_aload X1039 hx (hb hby at_201) rfl rfl ?_
              exact k_
            have F1055 : Exa Z T1009.heap b984 c_0 := (F1003.keep Kc1009)
            obtain ⟨cq1054, kq1054, q1054a, q1054b, q1054c⟩ := isOf hZ eh1039 F1055
            obtain ⟨_, _, ⟨T1054, L1054, k1054, n1054⟩, -, X1054, ⟨Lc1054, hQ1054, l1054, y1054, z1054⟩, st1054⟩ := X1039.virtualBack hx (y := y_4) (z := y_4) hown (mvT hZ (own_w hw 31 rfl)) (mvT hZ (own_w hw 32 rfl)) (notFace_of_selects (args := #[]) (mvT hZ (own_w hw 34 rfl))) (mvT hZ (own_w hw 34 rfl)) (mvT hZ (own_w hw 33 rfl)) (by decide) (backOf (W := 0) (rm6_3_3 l Z a0 hw [] b984 b_979 b_801 kb_801 kb_979 l0 l1 l2 k0 k1 k2 (T1009.heap) n0 Z1010 F4_1009 F1051 F1052 (own_s0 h_b h_k0 h_k1) (own_s1 h_b h_k0 h_k1 h_k2)) hZ (own_w hw 35 rfl) (own_w hw 7 rfl) (by decide) (by decide)) q1054a q1054c (g := (mkF m 203 #[vi p1, vi p2, vi p3, vi b, vi (3 : Int32), vi l0, vi l1, vi l2, vi (3 : Int32), vi k0, vi k1, vi k2, vr b_801, vr b_979, vr b984, vi (1 : Int32)] [(.ref b_979), (.ref b984)])) rfl (by rw [hml]; rfl) (Steps.refl _) (argsL := [(.ref b_979)]) (rest := []) (lenOf pd0_2 rfl) rfl (by show 2 * 0 + _ ≤ _; exact Nat.le_of_eq rfl) (hb hby at_203) (fun _ _ => ⟨rfl, eh1039, (by decide : 4 + 0 ≤ _), (by decide : 10 + 0 ≤ _)⟩)
            dsimp only [Pt.U, Pt.locs, Pt.cells, Pt.slots] at X1054 l1054 y1054 z1054 st1054 hQ1054
            subst l1054 y1054 z1054
            obtain ⟨rfl, Nq1054, eh1054⟩ := hQ1054
            have N1054 := Fr.app N1039 Nq1054
            have go1056 : Go p e below s₁ F0 T1054 (mkF m 206 #[vi p1, vi p2, vi p3, vi b, vi (3 : Int32), vi l0, vi l1, vi l2, vi (3 : Int32), vi k0, vi k1, vi k2, vr b_801, vr b_979, vr b984, vi (1 : Int32)] [(.int (f6_3_3 l0 l1 l2 k0 k1 k2))]) := fun t_ k_ => go1053 t_ (st1054.trans k_)
            have go1058 : Go p e below s₁ F0 T1054 (mkF m 208 #[vi p1, vi p2, vi p3, vi b, vi (3 : Int32), vi l0, vi l1, vi l2, vi (3 : Int32), vi k0, vi k1, vi k2, vr b_801, vr b_979, vr b984, vi (1 : Int32)] [(.int (1 : Int32)), (.int (f6_3_3 l0 l1 l2 k0 k1 k2))]) := by
              intro t_ k_
              refine go1056 t_ ?_
              refine o_iload X1054 hx (hb hby at_206) rfl ?_
              exact k_
            have hd1057 : (f6_3_3 l0 l1 l2 k0 k1 k2) = (1 : Int32) := own_yes_3_3 l0 l1 l2 k0 k1 k2 (own_s0 h_b h_l0 h_l1) (own_s1 h_b h_l0 h_l1 h_l2) (own_s0 h_b h_k0 h_k1) (own_s1 h_b h_k0 h_k1 h_k2) hc145_1015 hc167_1028 hc189_1041
            have go1059 : Go p e below s₁ F0 T1054 (mkF m 216 #[vi p1, vi p2, vi p3, vi b, vi (3 : Int32), vi l0, vi l1, vi l2, vi (3 : Int32), vi k0, vi k1, vi k2, vr b_801, vr b_979, vr b984, vi (1 : Int32)] [(.int (1 : Int32))]) := by
              intro t_ k_
              refine go1058 t_ ?_
              refine o_icmpNo X1054 hx (hb hby at_208) (teq hd1057).2 ?_
              refine o_iconst X1054 hx (hb hby at_211) (v := 1) rfl ?_
              refine o_goto X1054 hx (hb hby at_212) (pc' := 216) rfl (by decide) ?_
              exact k_
            obtain ⟨fs, hr, hrun, hended, hW, hsame⟩ := X1054.leave (v := some (.int (1 : Int32))) (fun h => by rw [Bd.returns] at h; cases h)
            refine ⟨_, _, pre0 _ (go1059 _ ?_), hrun, hended, _, _, rfl, ?_, ⟨_, rfl⟩, hW, hsame.mono (by decide) (by decide)⟩
            · skip
              exact retN X1054 hx (t := .boolean) Bd.returns (by simp) (hb hby at_216) hr
            · show Q0 Z p1 p2 p3 h0 n0 _ T1054.heap _
              rw [eh1054]
              exact ⟨rfl, N1054⟩

set_option maxRecDepth 65536 in
set_option maxHeartbeats 40000000 in
theorem comes_1 {Post : Tables → Env → Array Value → State → Outcome → State → Prop} (hpost : ∀ tb e args s v u, (limb_1_1.after args s (.returned v) u = true ∧ limb_1_2.after args s (.returned v) u = true ∧ True) → FrameEnd s (.returned v) u (Jvm.fieldLocs frame_1_writes args s ++ Jvm.arrayLocs frame_1_arrays args s ++ Jvm.staticLocs frame_1_statics s) 16 128 → Post tb e args s (.returned v) u) :
    ArmFor flags0 classFile x code maxLocals ret World_1 tables_1 room_1 Calls_1 rest_1 Pre_1 Post := by
  intro l hfl _ _ p e ha hc hk s m args below hf hA hF happ hP
  obtain ⟨hcalls, hrest, hpre⟩ := hP
  obtain ⟨-, -, -, hnamed, -, -, -, hat⟩ := (Spec.applies_iff hf).mp happ
  obtain ⟨hg, hn⟩ := and_e (Cond.before_iff.mp (show (Jvm.Cond.and given_1 narrow_1).before args s = true from hpre))
  obtain ⟨g1, g2⟩ := and_e hg
  obtain ⟨g3, g4⟩ := and_e g2
  obtain ⟨g5, g6⟩ := and_e g4
  obtain ⟨w0, w1, w2, rfl⟩ : ∃ w0 w1 w2 : Value, args = #[w0, w1, w2] := by
    have hs : args.size = 3 := by simpa [Cond.value, given_1] using g1
    obtain ⟨L⟩ := args
    match L, hs with
    | [w0, w1, w2], _ => exact ⟨w0, w1, w2, rfl⟩
  have hw := fun d (hd : d ∈ tables_1) => atoms_spec (ws := Jvm.Cond.code x code maxLocals ret :: tables_1) hat d (List.mem_cons_of_mem _ hd)
  have hfit : Fit s := fun {y c} hc i hi => by
    obtain ⟨ha, rfl⟩ := Array.getElem?_eq_some_iff.mp hc
    have q := List.all_eq_true.mp ((Array.all_eq_true_iff_forall_mem.mp hF) _ (Array.getElem_mem ha)) i (List.mem_range.mpr hi)
    simpa [Array.getElem?_eq_getElem hi] using q
  obtain ⟨i0, ei0⟩ := is_v g3
  obtain rfl : w0 = (.int i0) := Option.some.inj ei0
  obtain ⟨i1, ei1⟩ := is_v g5
  obtain rfl : w1 = (.int i1) := Option.some.inj ei1
  obtain ⟨i2, ei2⟩ := is_v g6
  obtain rfl : w2 = (.int i2) := Option.some.inj ei2
  obtain ⟨n, o, h1, h2, h3, _, L, rfl, ⟨rfl, N⟩, hq⟩ := rm0 l s _ hw tables_1 i0 i1 i2  s.heap s.heap.size (Nat.le_refl _)  p e ha hc hk s m _ below hf ((Spec.applies_iff_loose hf).mp happ).1 ⟨rfl, State.Warmed39.refl s, rfl⟩ trivial
  refine ⟨n, _, h1, h2, h3, hpost _ _ _ _ _ _ ⟨Cond.after_iff.mpr rfl, Cond.after_iff.mpr (eq_i res_at (Term.int_eval (1)) rfl), trivial⟩ ⟨hq.1, hq.2.1, (hq.2.2.sift fun y hy => Or.inr (N y hy)).mono (by decide) (by decide)⟩⟩
theorem main_1_1 : Claimed_1_1 := comes_1 fun _ _ _ _ _ _ h hF => ⟨h.1, hF⟩
theorem main_1_2 : Claimed_1_2 := comes_1 fun _ _ _ _ _ _ h hF => ⟨h.2.1, hF⟩
end Jvm.Pilot.@@N@@
namespace Jvm.Pilot.@@N@@
open Jvm Jvm.ClassFile Sem Op Lib Jvm.Free Jvm.Stand Jvm.Pilot.@@N@@.Jvm.D
/-! MADE BY PROGRAM (witnessworld.py) out of the Statement's table words and the real class files: 10 classes; the members and pool entries that the words name. The judged class is class 1, her method 3. -/
namespace start1
open Jvm.ClassFile
def u (s : String) : CpInfo := .utf8 (stringToUtf16 s)
/-- a pool by its gaps: so many unusable entries, then the entry; so many at the end -/
def gap : Nat → List CpInfo → List CpInfo
  | 0, r => r
  | n + 1, r => .unusable :: gap n r
def poolList (es : List (Nat × CpInfo)) (last : Nat) : List CpInfo := es.foldr (fun e r => gap e.1 (e.2 :: r)) (gap last [])
def pool (es : List (Nat × CpInfo)) (last : Nat) : Array CpInfo := ⟨poolList es last⟩
def fileOf (pool : Array CpInfo) (this : Nat) (attrs : Array Attribute := #[]) (ms : Array MethodInfo := #[]) (fl : Nat := 33) (sup : Nat := 0) (ifs : Array Nat := #[]) (fds : Array FieldInfo := #[]) : ClassFile where
  minorVersion := 0
  majorVersion := 65
  constantPool := pool
  accessFlags := fl
  thisClass := this
  superClass := sup
  interfaces := ifs
  fields := fds
  methods := ms
  attributes := attrs
def plain (name : String) (sup : Option ClassId) : Class where
  name := name
  kind := .ordinary
  loader := none
  accessFlags := 33
  super := sup
  interfaces := #[]
  cf := none
  fields := #[]
  methods := #[]
  instanceTypes := #[]
  staticTypes := #[]
  resolved := #[]
  callSites := []
  init := .initialized
  statics := none
  mirror := none

def pool0 : Array CpInfo := pool [(5, u "<init>"), (0, u "()V"), (1, .class_ 10), (1, u "java/lang/Object")] 113

def k0c0 : Code := { maxStack := 0, maxLocals := 1, code := object_method_1_code, exceptionTable := #[], attributes := #[] }
def k0m0 : Method := { name := "<init>", desc := "()V", sig := { parameters := [], returnType := none }, accessFlags := 1, code := some k0c0 }
/-- java/lang/Object -/
def k0 : Class := { plain "java/lang/Object" none with
  accessFlags := 33
  interfaces := #[]
  cf := some (fileOf pool0 8 #[] #[{ accessFlags := 1, nameIndex := 5, descriptorIndex := 6, attributes := #[] }] 33 0 #[] #[])
  fields := #[]
  methods := #[k0m0]
  instanceTypes := #[]
  staticTypes := #[]
  resolved := Array.replicate 124 none
  statics := none }

def pool1 : Array CpInfo := pool [(2, .class_ 4), (1, u "java/lang/Object"), (0, u "<init>"), (0, u "()V"), (0, .methodref 8 9), (0, .class_ 10), (0, .nameAndType 11 12), (0, u "com/example/slackline/slackline/workload/MachineListsPinLaw"), (0, u "make"), (0, u "(IIII)[I"), (0, .class_ 14), (0, u "com/example/slackline/slackline/workload/Farm$Machine"), (2, .long 1000000), (1, .methodref 13 20), (0, .nameAndType 5 21), (0, u "(JJ[I[I)V"), (0, .methodref 8 23), (0, .nameAndType 24 25), (0, u "has"), (0, u "(IIIII)Z"), (0, .methodref 13 27), (0, .nameAndType 28 29), (0, u "lists"), (0, u "([I)Z"), (3, u "law"), (0, u "(III)Z")] 6

def k1m0 : Method := { name := "<init>", desc := "()V", sig := { parameters := [], returnType := none }, accessFlags := 2, code := none }
def k1c1 : Code := { maxStack := 4, maxLocals := 4, code := method_2_code, exceptionTable := #[], attributes := #[] }
def k1m1 : Method := { name := "make", desc := "(IIII)[I", sig := { parameters := [.int, .int, .int, .int], returnType := some (.array .int) }, accessFlags := 10, code := some k1c1 }
def k1c2 : Code := { maxStack := 2, maxLocals := 5, code := method_3_code, exceptionTable := #[], attributes := #[] }
def k1m2 : Method := { name := "has", desc := "(IIIII)Z", sig := { parameters := [.int, .int, .int, .int, .int], returnType := some .boolean }, accessFlags := 10, code := some k1c2 }
def k1c3 : Code := { maxStack := 8, maxLocals := 16, code := code, exceptionTable := #[], attributes := #[] }
def k1m3 : Method := { name := "law", desc := "(III)Z", sig := { parameters := [.int, .int, .int], returnType := some .boolean }, accessFlags := 9, code := some k1c3 }
/-- com/example/slackline/slackline/workload/MachineListsPinLaw -/
def k1 : Class := { plain "com/example/slackline/slackline/workload/MachineListsPinLaw" (some 0) with
  accessFlags := 49
  interfaces := #[]
  cf := some (fileOf pool1 8 #[] #[{ accessFlags := 2, nameIndex := 5, descriptorIndex := 6, attributes := #[] }, { accessFlags := 10, nameIndex := 11, descriptorIndex := 12, attributes := #[] }, { accessFlags := 10, nameIndex := 24, descriptorIndex := 25, attributes := #[] }, { accessFlags := 9, nameIndex := 33, descriptorIndex := 34, attributes := #[] }] 49 2 #[] #[])
  fields := #[]
  methods := #[k1m0, k1m1, k1m2, k1m3]
  instanceTypes := #[]
  staticTypes := #[]
  resolved := Array.replicate 41 none
  statics := none }

def pool2 : Array CpInfo := pool [(1, .methodref 2 3), (0, .class_ 4), (0, .nameAndType 5 6), (0, u "java/lang/Object"), (0, u "<init>"), (0, u "()V"), (0, .class_ 8), (0, u "java/lang/Record")] 13

def k2c0 : Code := { maxStack := 1, maxLocals := 1, code := jdk_30_method_1_code, exceptionTable := #[], attributes := #[] }
def k2m0 : Method := { name := "<init>", desc := "()V", sig := { parameters := [], returnType := none }, accessFlags := 4, code := some k2c0 }
/-- java/lang/Record -/
def k2 : Class := { plain "java/lang/Record" (some 0) with
  accessFlags := 1057
  interfaces := #[]
  cf := some (fileOf pool2 7 #[] #[{ accessFlags := 4, nameIndex := 5, descriptorIndex := 6, attributes := #[] }] 1057 2 #[] #[])
  fields := #[]
  methods := #[k2m0]
  instanceTypes := #[]
  staticTypes := #[]
  resolved := Array.replicate 22 none
  statics := none }

def pool3 : Array CpInfo := pool [(1, .methodref 2 3), (0, .class_ 4), (0, .nameAndType 5 6), (0, u "java/lang/Record"), (0, u "<init>"), (0, u "()V"), (0, .fieldref 8 9), (0, .class_ 10), (0, .nameAndType 11 12), (0, u "com/example/slackline/slackline/workload/Farm$Machine"), (0, u "id"), (0, u "J"), (0, .fieldref 8 14), (0, .nameAndType 15 12), (0, u "power"), (0, .fieldref 8 17), (0, .nameAndType 18 19), (0, u "units"), (0, u "[I"), (0, .fieldref 8 21), (0, .nameAndType 22 19), (0, u "licences"), (12, u "(JJ[I[I)V"), (3, u "lists"), (0, u "([I)Z"), (11, .class_ 53), (0, u "com/example/slackline/slackline/workload/Farm")] 22

def k3c0 : Code := { maxStack := 3, maxLocals := 7, code := prog_150_method_1_code, exceptionTable := #[], attributes := #[] }
def k3m0 : Method := { name := "<init>", desc := "(JJ[I[I)V", sig := { parameters := [.long, .long, (.array .int), (.array .int)], returnType := none }, accessFlags := 1, code := some k3c0 }
def k3c1 : Code := { maxStack := 2, maxLocals := 7, code := prog_150_method_2_code, exceptionTable := #[], attributes := #[] }
def k3m1 : Method := { name := "lists", desc := "([I)Z", sig := { parameters := [(.array .int)], returnType := some .boolean }, accessFlags := 1, code := some k3c1 }
/-- com/example/slackline/slackline/workload/Farm$Machine -/
def k3 : Class := { plain "com/example/slackline/slackline/workload/Farm$Machine" (some 2) with
  accessFlags := 49
  interfaces := #[]
  cf := some (fileOf pool3 8 #[.nestHost 52] #[{ accessFlags := 1, nameIndex := 5, descriptorIndex := 35, attributes := #[] }, { accessFlags := 1, nameIndex := 39, descriptorIndex := 40, attributes := #[] }] 49 2 #[] #[{ accessFlags := 18, nameIndex := 11, descriptorIndex := 12, attributes := #[] }, { accessFlags := 18, nameIndex := 15, descriptorIndex := 12, attributes := #[] }, { accessFlags := 18, nameIndex := 18, descriptorIndex := 19, attributes := #[] }, { accessFlags := 18, nameIndex := 22, descriptorIndex := 19, attributes := #[] }])
  fields := #[{ name := "id", type := .long, accessFlags := 18, slot := 0, constantValue := 0 }, { name := "power", type := .long, accessFlags := 18, slot := 1, constantValue := 0 }, { name := "units", type := (.array .int), accessFlags := 18, slot := 2, constantValue := 0 }, { name := "licences", type := (.array .int), accessFlags := 18, slot := 3, constantValue := 0 }]
  methods := #[k3m0, k3m1]
  instanceTypes := #[.long, .long, (.array .int), (.array .int)]
  staticTypes := #[]
  resolved := Array.replicate 76 none
  statics := none }

def pool4 : Array CpInfo := pool [(1, u "java/lang/Cloneable"), (0, .class_ 1), (0, u "java/lang/Object"), (0, .class_ 3)] 3

/-- java/lang/Cloneable -/
def k4 : Class := { plain "java/lang/Cloneable" (some 0) with
  accessFlags := 1537
  interfaces := #[]
  cf := some (fileOf pool4 2 #[] #[] 1537 4 #[] #[])
  fields := #[]
  methods := #[]
  instanceTypes := #[]
  staticTypes := #[]
  resolved := Array.replicate 8 none
  statics := none }

def pool5 : Array CpInfo := pool [(1, u "java/io/Serializable"), (0, .class_ 1), (0, u "java/lang/Object"), (0, .class_ 3)] 3

/-- java/io/Serializable -/
def k5 : Class := { plain "java/io/Serializable" (some 0) with
  accessFlags := 1537
  interfaces := #[]
  cf := some (fileOf pool5 2 #[] #[] 1537 4 #[] #[])
  fields := #[]
  methods := #[]
  instanceTypes := #[]
  staticTypes := #[]
  resolved := Array.replicate 8 none
  statics := none }

/-- the primitive byte -/
def k6 : Class := { plain "byte" none with kind := .primitive 'B', accessFlags := 0x411 }
/-- [B -/
def k7 : Class := { plain "[B" (some 0) with kind := .array 6 .byte, interfaces := #[4, 5], accessFlags := 1041 }

/-- the primitive int -/
def k8 : Class := { plain "int" none with kind := .primitive 'I', accessFlags := 0x411 }
/-- [I -/
def k9 : Class := { plain "[I" (some 0) with kind := .array 8 .int, interfaces := #[4, 5], accessFlags := 1041 }

def heap : Heap := #[]
def classes : Array Class := #[k0, k1, k2, k3, k4, k5, k6, k7, k8, k9]
def interned : List (Array UInt16 × Addr) := []
def slotsUsed : Nat := 0
def theMethod : MethodId := ⟨1, 3⟩
def args0 : Array Value := #[.int 5, .int 5, .int 5]
def aboutOver (below : List Frame) : State where
  vm := { classes := classes, interned := interned.toArray }
  heap := heap
  slotsUsed := slotsUsed
  threads := #[{ frames := .invoking theMethod args0 :: below }]
def below0 : List Frame := [.native { method := ⟨0, 0⟩, args := #[] }]
def about1 : State := aboutOver below0
def p0 : Program := .bare "" "" ""
def e0 : Env := launch0.env 0 0 0
theorem w_frames : about1.frames = Frame.invoking theMethod args0 :: below0 := rfl
set_option maxRecDepth 65536 in
theorem w_args : argsFit about1.vm theMethod args0 = true := by decide +kernel
set_option maxRecDepth 65536 in
theorem w_heap : heapFits about1 = true := by decide +kernel
set_option maxRecDepth 65536 in
theorem w_runnable : about1.curStatus? = some .runnable := by decide +kernel
set_option maxRecDepth 65536 in
theorem w_alone : about1.alone = true := by decide +kernel
set_option maxRecDepth 65536 in
theorem w_named : about1.methodNamed? x = some theMethod := by decide +kernel
set_option maxRecDepth 65536 in
theorem w_hears : about1.hears theMethod below0 = true := by decide +kernel
set_option maxRecDepth 65536 in
theorem w_ripe : about1.ripe theMethod args0 below0 = true := by decide +kernel
theorem w_running : about1.status = .running := rfl
set_option maxRecDepth 65536 in
theorem w_room : about1.hasRoom e0.platform room_1 = true :=
  launch0.hasRoom_least _ room_1 (by decide +kernel) (by decide +kernel) (by decide +kernel) (by decide +kernel) (by decide +kernel) (by decide +kernel)
theorem allAtoms_all (ts : List Jvm.Cond) (a : Array Jvm.Value) (st : Jvm.State) : (allAtoms ts).before a st = ts.all (fun c => c.before a st) := by
  induction ts with
  | nil => rfl
  | cons c t ih =>
    show (Jvm.Cond.and c (allAtoms t)).before a st = _
    rw [Jvm.Cond.before_and, ih, List.all_cons]
def words1 : List Jvm.Cond := Jvm.Cond.code x code maxLocals ret :: tables_1
/-- a 'code' word, met by the world's own term for the bytes: nothing is compared byte by byte -/
theorem code_word {y : MethodName} {bytes : ByteArray} {mx : Nat} {rt : Option FieldType} {a : Array Value} {s : State} {m : MethodId} {meth : Method} {c : Code} (h1 : s.methodNamed? y = some m) (h2 : s.vm.method? m = some meth) (h3 : meth.code = some c) (h4 : c.code = bytes)
    (h5 : (c.maxLocals == mx && c.exceptionTable.isEmpty && decide (c.maxStack ≤ mostOperands) && decide (meth.sig.returnType = rt) && !meth.locks && decide (parseMethodDescriptor y.desc = some meth.sig)) = true) : (Jvm.Cond.code y bytes mx rt).before a s = true := by
  simp only [Bool.and_eq_true, beq_iff_eq, Bool.not_eq_true', decide_eq_true_eq] at h5
  obtain ⟨⟨⟨⟨⟨g1, g2⟩, g3⟩, g4⟩, g5⟩, g6⟩ := h5
  simp [Cond.before, Cond.holds, Cond.value, h1, h2, h3, h4, g1, g2, g3, g4, g5, g6]
def isCode : Jvm.Cond → Bool
  | .code _ _ _ _ => true
  | _ => false
theorem all_split {L : List Jvm.Cond} {P : Jvm.Cond → Bool} (h1 : L.all (fun c => isCode c || P c) = true) (h2 : ∀ c ∈ L.filter isCode, P c = true) : L.all P = true := by
  refine List.all_eq_true.mpr fun c hc => ?_
  have h := List.all_eq_true.mp h1 c hc
  rcases Bool.eq_false_or_eq_true (isCode c) with hi | hi
  · exact h2 c (List.mem_filter.mpr ⟨hc, hi⟩)
  · simpa [hi] using h
set_option maxRecDepth 65536 in
theorem w_c0 : (Jvm.Cond.code x code maxLocals ret).before args0 about1 = true := code_word (m := ⟨1, 3⟩) (meth := k1m3) (c := k1c3) (by decide +kernel) rfl rfl rfl (by decide +kernel)
set_option maxRecDepth 65536 in
theorem w_c1 : (Jvm.Cond.code ({ cls := "com/example/slackline/slackline/workload/MachineListsPinLaw", name := "make", desc := "(IIII)[I" } : Jvm.MethodName) method_2_code (4 : Nat) (Option.some (Jvm.ClassFile.FieldType.array Jvm.ClassFile.FieldType.int))).before args0 about1 = true := code_word (m := ⟨1, 1⟩) (meth := k1m1) (c := k1c1) (by decide +kernel) rfl rfl rfl (by decide +kernel)
set_option maxRecDepth 65536 in
theorem w_c2 : (Jvm.Cond.code ({ cls := "com/example/slackline/slackline/workload/Farm$Machine", name := "<init>", desc := "(JJ[I[I)V" } : Jvm.MethodName) prog_150_method_1_code (7 : Nat) (Option.none : Option Jvm.ClassFile.FieldType)).before args0 about1 = true := code_word (m := ⟨3, 0⟩) (meth := k3m0) (c := k3c0) (by decide +kernel) rfl rfl rfl (by decide +kernel)
set_option maxRecDepth 65536 in
theorem w_c3 : (Jvm.Cond.code ({ cls := "java/lang/Record", name := "<init>", desc := "()V" } : Jvm.MethodName) jdk_30_method_1_code (1 : Nat) (Option.none : Option Jvm.ClassFile.FieldType)).before args0 about1 = true := code_word (m := ⟨2, 0⟩) (meth := k2m0) (c := k2c0) (by decide +kernel) rfl rfl rfl (by decide +kernel)
set_option maxRecDepth 65536 in
theorem w_c4 : (Jvm.Cond.code ({ cls := "java/lang/Object", name := "<init>", desc := "()V" } : Jvm.MethodName) object_method_1_code (1 : Nat) (Option.none : Option Jvm.ClassFile.FieldType)).before args0 about1 = true := code_word (m := ⟨0, 0⟩) (meth := k0m0) (c := k0c0) (by decide +kernel) rfl rfl rfl (by decide +kernel)
set_option maxRecDepth 65536 in
theorem w_c5 : (Jvm.Cond.code ({ cls := "com/example/slackline/slackline/workload/MachineListsPinLaw", name := "has", desc := "(IIIII)Z" } : Jvm.MethodName) method_3_code (5 : Nat) (Option.some Jvm.ClassFile.FieldType.boolean)).before args0 about1 = true := code_word (m := ⟨1, 2⟩) (meth := k1m2) (c := k1c2) (by decide +kernel) rfl rfl rfl (by decide +kernel)
set_option maxRecDepth 65536 in
theorem w_c6 : (Jvm.Cond.code ({ cls := "com/example/slackline/slackline/workload/Farm$Machine", name := "lists", desc := "([I)Z" } : Jvm.MethodName) prog_150_method_2_code (7 : Nat) (Option.some Jvm.ClassFile.FieldType.boolean)).before args0 about1 = true := code_word (m := ⟨3, 1⟩) (meth := k3m1) (c := k3c1) (by decide +kernel) rfl rfl rfl (by decide +kernel)
def codes1 : List Jvm.Cond := [Jvm.Cond.code x code maxLocals ret, Jvm.Cond.code ({ cls := "com/example/slackline/slackline/workload/MachineListsPinLaw", name := "make", desc := "(IIII)[I" } : Jvm.MethodName) method_2_code (4 : Nat) (Option.some (Jvm.ClassFile.FieldType.array Jvm.ClassFile.FieldType.int)), Jvm.Cond.code ({ cls := "com/example/slackline/slackline/workload/Farm$Machine", name := "<init>", desc := "(JJ[I[I)V" } : Jvm.MethodName) prog_150_method_1_code (7 : Nat) (Option.none : Option Jvm.ClassFile.FieldType), Jvm.Cond.code ({ cls := "java/lang/Record", name := "<init>", desc := "()V" } : Jvm.MethodName) jdk_30_method_1_code (1 : Nat) (Option.none : Option Jvm.ClassFile.FieldType), Jvm.Cond.code ({ cls := "java/lang/Object", name := "<init>", desc := "()V" } : Jvm.MethodName) object_method_1_code (1 : Nat) (Option.none : Option Jvm.ClassFile.FieldType), Jvm.Cond.code ({ cls := "com/example/slackline/slackline/workload/MachineListsPinLaw", name := "has", desc := "(IIIII)Z" } : Jvm.MethodName) method_3_code (5 : Nat) (Option.some Jvm.ClassFile.FieldType.boolean), Jvm.Cond.code ({ cls := "com/example/slackline/slackline/workload/Farm$Machine", name := "lists", desc := "([I)Z" } : Jvm.MethodName) prog_150_method_2_code (7 : Nat) (Option.some Jvm.ClassFile.FieldType.boolean)]
set_option maxRecDepth 65536 in
theorem codes_eq : words1.filter isCode = codes1 := rfl
theorem w_codes : ∀ c ∈ words1.filter isCode, c.before args0 about1 = true := by
  rw [codes_eq]
  intro c hc
  simp only [codes1, List.mem_cons, List.not_mem_nil, or_false] at hc
  rcases hc with rfl | rfl | rfl | rfl | rfl | rfl | rfl
  · exact w_c0
  · exact w_c1
  · exact w_c2
  · exact w_c3
  · exact w_c4
  · exact w_c5
  · exact w_c6
set_option maxRecDepth 65536 in
theorem w_t1 : (words1.take 24).all (fun c => isCode c || c.before args0 about1) = true := by decide +kernel
set_option maxRecDepth 65536 in
theorem w_t2 : (words1.drop 24).all (fun c => isCode c || c.before args0 about1) = true := by decide +kernel
theorem w_tables : (allAtoms (Jvm.Cond.code x code maxLocals ret :: tables_1)).before args0 about1 = true := by
  rw [allAtoms_all]
  show words1.all (fun c => c.before args0 about1) = true
  refine all_split ?_ w_codes
  rw [← List.take_append_drop 24 words1, List.all_append, w_t1, w_t2]
  rfl
set_option maxRecDepth 65536 in
theorem w_case : (Jvm.Cond.and given_1 narrow_1).before args0 about1 = true := by decide +kernel
theorem w_applies : (headSpec (Jvm.Cond.code x code maxLocals ret :: tables_1) room_1).applies x e0.platform about1 = true :=
  (Spec.applies_iff w_frames).mpr ⟨w_running, w_runnable, w_alone, w_named, w_hears, w_ripe, w_room, w_tables⟩
theorem atStart : AtStart classFile x code maxLocals ret World_1 tables_1 room_1 Calls_1 rest_1 Pre_1 launch0 p0 e0 about1 theMethod args0 below0 :=
  ⟨lists_1, trivial, launch0.admits_env _ _ _, launch0.least_env, fairChoices_fair.cas, fairChoices_fair.clock, w_frames, w_args, w_heap, w_applies, trivial, trivial, w_case⟩
end start1
theorem witness_1 : WitnessClaimed_1 := ⟨start1.p0, start1.e0, start1.about1, start1.theMethod, start1.args0, start1.below0, start1.atStart⟩
end Jvm.Pilot.@@N@@
