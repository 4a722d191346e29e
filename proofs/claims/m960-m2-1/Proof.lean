import JvmDerived
import JvmDerived.Pilot.@@N@@Statement
import JvmDerived.Pilot.@@N@@Code
set_option linter.unusedVariables false
set_option linter.unusedSimpArgs false

namespace Jvm.RoadKit
open Sem ClassFile Op Lib Jvm.Stand Jvm.Free Jvm.LawKit
section New
variable {p : Program} {l : Launch} {e : Env} {R : Room} {s : State} {m : MethodId} {args : Array Value} {below : List Frame} {meth : Method} {c : Code} {T : State} {locs : List Loc} {cells slots : Nat}
theorem retI (X : Stand p l e R s m args below meth c T locs cells slots) (hx : p.tables.exec = Jvm.exec) {pc : Nat} {Ls : Array Slot} {z : Int32} {rest : List Value} (hret : meth.sig.returnType = some .int) (hd : decode c.code pc = .ok (.ireturn, 1)) {fs : List Frame}
    (hl : ∀ (f : JFrame) (acts : List Action), f.method = m → f.locked = none → f.entered = [] → (doReturn e (T.setTop f) acts (some (.int z))).1 = T.setFrames fs) : Steps p.tables e below (T.setTop (mkF m pc Ls (.int z :: rest))) (T.setFrames fs) := by
  have hm' : T.vm.method? m = some meth := X.method'
  have hn : narrow .int (.int z) = .int z := rfl
  show Steps p.tables e below (T.setTop { method := m, pc := pc, locals := Ls, stack := _ :: rest, locked := none }) _
  jvm_step X.here [X.here.top, hx, hd, hm', hret, hn]
  first | (intro acts; rw [hl _ acts rfl rfl rfl]) | rw [hl _ _ rfl rfl rfl]
  exact Steps.refl _
end New
end Jvm.RoadKit
namespace Jvm.Pilot.@@N@@
open Jvm Jvm.ClassFile Sem Op Lib Jvm.Free Jvm.Stand Jvm.LawKit Jvm.RoadKit Bundle Jvm.Pilot.@@N@@.Jvm.D
abbrev y_0 : MethodName := ⟨"com/example/keylint/keylint/Line", "single", "(B)C"⟩
abbrev y_1 : MethodName := ⟨"com/example/keylint/keylint/Line", "carried", "(I)I"⟩
abbrev y_2 : MethodName := ⟨"com/example/keylint/keylint/Line", "carry", "(B)C"⟩
abbrev y_3 : MethodName := ⟨"com/example/keylint/keylint/LineCarriedPinLaw", "check", "(I)Z"⟩
abbrev own_zl (n : Nat) : List Value := List.replicate n (.long (0 : Int64))
abbrev own_zi (n : Nat) : List Value := List.replicate n (.int (0 : Int32))
abbrev own_zr (n : Nat) : List Value := List.replicate n .null
abbrev vi (x : Int32) : Slot := .val (.int x)
abbrev vj (x : Int64) : Slot := .val (.long x)
abbrev vr (x : Addr) : Slot := .val (.ref x)
section Steps
variable {p : Program} {l : Launch} {e : Env} {R : Room} {s : State} {m : MethodId} {args : Array Value} {below : List Frame} {meth : Method} {c : Code} {T : State} {locs : List Loc} {cells slots : Nat} {pc pc' : Nat} {Ls L' : Array Slot} {S : List Value} {t : State} {Z : State} {h : Heap} {a : Addr} {cl : Cell}
abbrev Go (p : Program) (e : Env) (below : List Frame) (T0 : State) (g0 : JFrame) (T : State) (g : JFrame) : Prop := ∀ t, Steps p.tables e below (T.setTop g) t → Steps p.tables e below (T0.setTop g0) t
theorem own_w {Z : State} {a0 : Array Value} (hw : ∀ d ∈ tables_1, d.before a0 Z = true) (k : Nat) {d : Jvm.Cond} (h : tables_1[k]? = some d) : d.before a0 Z = true := hw _ (List.mem_of_getElem? h)
theorem o_iloadN (X : Stand p l e R s m args below meth c T locs cells slots) (hx : p.tables.exec = Jvm.exec) {i : Fin 4} {v : Int32} (hd : decode c.code pc = .ok (.iload_n i, 1)) (hl : Ls[i.val]? = some (.val (.int v))) (k : Steps p.tables e below (T.setTop (mkF m (pc + 1) Ls (.int v :: S))) t) : Steps p.tables e below (T.setTop (mkF m pc Ls (S))) t := XS.iloadN X.here hx rfl hd hl k
theorem o_iload (X : Stand p l e R s m args below meth c T locs cells slots) (hx : p.tables.exec = Jvm.exec) {i : Nat} {v : Int32} (hd : decode c.code pc = .ok (.iload i, 2)) (hl : Ls[i]? = some (.val (.int v))) (k : Steps p.tables e below (T.setTop (mkF m (pc + 2) Ls (.int v :: S))) t) : Steps p.tables e below (T.setTop (mkF m pc Ls (S))) t := XS.iload X.here hx rfl hd hl k
theorem o_istoreN (X : Stand p l e R s m args below meth c T locs cells slots) (hx : p.tables.exec = Jvm.exec) {i : Fin 4} {v : Int32} (hd : decode c.code pc = .ok (.istore_n i, 1)) (hl : storeLocals Ls i.val (.int v) = some L') (k : Steps p.tables e below (T.setTop (mkF m (pc + 1) L' (S))) t) : Steps p.tables e below (T.setTop (mkF m pc Ls (.int v :: S))) t := XS.istoreN X.here hx rfl hd rfl hl k
theorem o_istore (X : Stand p l e R s m args below meth c T locs cells slots) (hx : p.tables.exec = Jvm.exec) {i : Nat} {v : Int32} (hd : decode c.code pc = .ok (.istore i, 2)) (hl : storeLocals Ls i (.int v) = some L') (k : Steps p.tables e below (T.setTop (mkF m (pc + 2) L' (S))) t) : Steps p.tables e below (T.setTop (mkF m pc Ls (.int v :: S))) t := XS.istore X.here hx rfl hd rfl hl k
theorem o_iconst (X : Stand p l e R s m args below meth c T locs cells slots) (hx : p.tables.exec = Jvm.exec) {i : Int} {v : Int32} (hd : decode c.code pc = .ok (.iconst i, 1)) (hv : v = Int32.ofInt i) (k : Steps p.tables e below (T.setTop (mkF m (pc + 1) Ls (.int v :: S))) t) : Steps p.tables e below (T.setTop (mkF m pc Ls (S))) t := XS.iconst X.here hx rfl hd (hv ▸ k)
theorem o_bipush (X : Stand p l e R s m args below meth c T locs cells slots) (hx : p.tables.exec = Jvm.exec) {i : Int} {v : Int32} (hd : decode c.code pc = .ok (.bipush i, 2)) (hv : v = (Int8.ofInt i).toInt32) (k : Steps p.tables e below (T.setTop (mkF m (pc + 2) Ls (.int v :: S))) t) : Steps p.tables e below (T.setTop (mkF m pc Ls (S))) t := XS.bipush X.here hx rfl hd (hv ▸ k)
theorem o_sipush (X : Stand p l e R s m args below meth c T locs cells slots) (hx : p.tables.exec = Jvm.exec) {i : Int} {v : Int32} (hd : decode c.code pc = .ok (.sipush i, 3)) (hv : v = (Int16.ofInt i).toInt32) (k : Steps p.tables e below (T.setTop (mkF m (pc + 3) Ls (.int v :: S))) t) : Steps p.tables e below (T.setTop (mkF m pc Ls (S))) t := XS.sipush X.here hx rfl hd (hv ▸ k)
theorem o_ldc (X : Stand p l e R s m args below meth c T locs cells slots) (hx : p.tables.exec = Jvm.exec) {own : String} {i : Nat} {v : Int32} (ho : s.vm.findClass own = some m.cls) (w : (Cond.constant own i v).before args s = true) (hd : decode c.code pc = .ok (.ldc i, 2))  (k : Steps p.tables e below (T.setTop (mkF m (pc + 2) Ls (.int v :: S))) t) : Steps p.tables e below (T.setTop (mkF m pc Ls (S))) t := X.ldcInt hx ho w (g := mkF m pc Ls S) rfl hd _ k
theorem o_iadd (X : Stand p l e R s m args below meth c T locs cells slots) (hx : p.tables.exec = Jvm.exec) {x y : Int32} (hd : decode c.code pc = .ok (.iadd, 1))  (k : Steps p.tables e below (T.setTop (mkF m (pc + 1) Ls (.int (x + y) :: S))) t) : Steps p.tables e below (T.setTop (mkF m pc Ls (.int y :: .int x :: S))) t := XS.iadd X.here hx rfl hd rfl k
theorem o_isub (X : Stand p l e R s m args below meth c T locs cells slots) (hx : p.tables.exec = Jvm.exec) {x y : Int32} (hd : decode c.code pc = .ok (.isub, 1))  (k : Steps p.tables e below (T.setTop (mkF m (pc + 1) Ls (.int (x - y) :: S))) t) : Steps p.tables e below (T.setTop (mkF m pc Ls (.int y :: .int x :: S))) t := XS.isub X.here hx rfl hd rfl k
theorem o_iand (X : Stand p l e R s m args below meth c T locs cells slots) (hx : p.tables.exec = Jvm.exec) {x y : Int32} (hd : decode c.code pc = .ok (.iand, 1))  (k : Steps p.tables e below (T.setTop (mkF m (pc + 1) Ls (.int (x &&& y) :: S))) t) : Steps p.tables e below (T.setTop (mkF m pc Ls (.int y :: .int x :: S))) t := XS.iand X.here hx rfl hd rfl k
theorem o_ior (X : Stand p l e R s m args below meth c T locs cells slots) (hx : p.tables.exec = Jvm.exec) {x y : Int32} (hd : decode c.code pc = .ok (.ior, 1))  (k : Steps p.tables e below (T.setTop (mkF m (pc + 1) Ls (.int (x ||| y) :: S))) t) : Steps p.tables e below (T.setTop (mkF m pc Ls (.int y :: .int x :: S))) t := XS.ior X.here hx rfl hd rfl k
theorem o_i2b (X : Stand p l e R s m args below meth c T locs cells slots) (hx : p.tables.exec = Jvm.exec) {x : Int32} (hd : decode c.code pc = .ok (.i2b, 1))  (k : Steps p.tables e below (T.setTop (mkF m (pc + 1) Ls (.int (x.toInt8.toInt32) :: S))) t) : Steps p.tables e below (T.setTop (mkF m pc Ls (.int x :: S))) t := XS.i2b X.here hx rfl hd rfl k
theorem o_i2c (X : Stand p l e R s m args below meth c T locs cells slots) (hx : p.tables.exec = Jvm.exec) {x : Int32} (hd : decode c.code pc = .ok (.i2c, 1))  (k : Steps p.tables e below (T.setTop (mkF m (pc + 1) Ls (.int (x.toUInt32.toUInt16.toUInt32.toInt32) :: S))) t) : Steps p.tables e below (T.setTop (mkF m pc Ls (.int x :: S))) t := XS.i2c X.here hx rfl hd rfl k
theorem o_ishr (X : Stand p l e R s m args below meth c T locs cells slots) (hx : p.tables.exec = Jvm.exec) {x : Int32} {y : Int32} (hd : decode c.code pc = .ok (.ishr, 1))  (k : Steps p.tables e below (T.setTop (mkF m (pc + 1) Ls (.int (x >>> (y &&& 31)) :: S))) t) : Steps p.tables e below (T.setTop (mkF m pc Ls (.int y :: .int x :: S))) t := XS.ishr X.here hx rfl hd rfl k
theorem o_irem (X : Stand p l e R s m args below meth c T locs cells slots) (hx : p.tables.exec = Jvm.exec) {x y : Int32} (hd : decode c.code pc = .ok (.irem, 1)) (hy : y ≠ 0) (k : Steps p.tables e below (T.setTop (mkF m (pc + 1) Ls (.int (x % y) :: S))) t) : Steps p.tables e below (T.setTop (mkF m pc Ls (.int y :: .int x :: S))) t := iremM X hx rfl hd rfl hy k
theorem o_goto (X : Stand p l e R s m args below meth c T locs cells slots) (hx : p.tables.exec = Jvm.exec) {o : Int} (hd : decode c.code pc = .ok (.goto o, 3)) (hp : ((pc : Int) + o).toNat = pc') (ho : 0 ≤ (pc : Int) + o) (k : Steps p.tables e below (T.setTop (mkF m (pc') Ls (S))) t) : Steps p.tables e below (T.setTop (mkF m pc Ls (S))) t := XS.goto X.here hx rfl rfl hd ho hp k
theorem o_ifYes (X : Stand p l e R s m args below meth c T locs cells slots) (hx : p.tables.exec = Jvm.exec) {cd : ClassFile.Cond} {x : Int32} {o : Int} (hd : decode c.code pc = .ok (.ifCond cd o, 3)) (hp : ((pc : Int) + o).toNat = pc') (ho : 0 ≤ (pc : Int) + o) (hc : ifCond.holds cd x = true) (k : Steps p.tables e below (T.setTop (mkF m (pc') Ls (S))) t) : Steps p.tables e below (T.setTop (mkF m pc Ls (.int x :: S))) t := XS.ifYes X.here hx rfl rfl hd rfl hc ho hp k
theorem o_ifNo (X : Stand p l e R s m args below meth c T locs cells slots) (hx : p.tables.exec = Jvm.exec) {cd : ClassFile.Cond} {x : Int32} {o : Int} (hd : decode c.code pc = .ok (.ifCond cd o, 3)) (hc : ifCond.holds cd x = false) (k : Steps p.tables e below (T.setTop (mkF m (pc + 3) Ls (S))) t) : Steps p.tables e below (T.setTop (mkF m pc Ls (.int x :: S))) t := XS.ifNo X.here hx rfl hd rfl hc k
theorem o_icmpYes (X : Stand p l e R s m args below meth c T locs cells slots) (hx : p.tables.exec = Jvm.exec) {cd : ClassFile.Cond} {x y : Int32} {o : Int} (hd : decode c.code pc = .ok (.if_icmp cd o, 3)) (hp : ((pc : Int) + o).toNat = pc') (ho : 0 ≤ (pc : Int) + o) (hc : if_icmp.holds cd x y = true) (k : Steps p.tables e below (T.setTop (mkF m (pc') Ls (S))) t) : Steps p.tables e below (T.setTop (mkF m pc Ls (.int y :: .int x :: S))) t := XS.icmpYes X.here hx rfl rfl hd rfl hc ho hp k
theorem o_icmpNo (X : Stand p l e R s m args below meth c T locs cells slots) (hx : p.tables.exec = Jvm.exec) {cd : ClassFile.Cond} {x y : Int32} {o : Int} (hd : decode c.code pc = .ok (.if_icmp cd o, 3)) (hc : if_icmp.holds cd x y = false) (k : Steps p.tables e below (T.setTop (mkF m (pc + 3) Ls (S))) t) : Steps p.tables e below (T.setTop (mkF m pc Ls (.int y :: .int x :: S))) t := XS.icmpNo X.here hx rfl hd rfl hc k
end Steps
theorem d1_0 : decode prog_22_method_3_code 0 = .ok (.iload_n 0, 1) := by decide +kernel
theorem d1_1 : decode prog_22_method_3_code 1 = .ok (.sipush 255, 3) := by decide +kernel
theorem d1_4 : decode prog_22_method_3_code 4 = .ok (.iand, 1) := by decide +kernel
theorem d1_5 : decode prog_22_method_3_code 5 = .ok (.iload_n 0, 1) := by decide +kernel
theorem d1_6 : decode prog_22_method_3_code 6 = .ok (.bipush 31, 2) := by decide +kernel
theorem d1_8 : decode prog_22_method_3_code 8 = .ok (.ishr, 1) := by decide +kernel
theorem d1_9 : decode prog_22_method_3_code 9 = .ok (.ldc 36, 2) := by decide +kernel
theorem d1_11 : decode prog_22_method_3_code 11 = .ok (.iand, 1) := by decide +kernel
theorem d1_12 : decode prog_22_method_3_code 12 = .ok (.ior, 1) := by decide +kernel
theorem d1_13 : decode prog_22_method_3_code 13 = .ok (.i2c, 1) := by decide +kernel
theorem d1_14 : decode prog_22_method_3_code 14 = .ok (.ireturn, 1) := by decide +kernel
theorem pn_1 : plainName "com/example/keylint/keylint/Line" = true := by first | (simp [plainName, overriddenIn]; done) | decide +kernel
theorem ef_1 (m : MethodId) (x0 : Int32) : entryFrame m #[(.int x0)] 1 = mkF m 0 #[vi x0] [] := by first | (simp [entryFrame, mkF, argsToLocals, Value.category]; done) | rfl
def f1 (p1 : Int32) : Int32 := (nar .char (((p1 &&& (255 : Int32)) ||| ((p1 >>> ((31 : Int32) &&& 31)) &&& (56320 : Int32))).toUInt32.toUInt16.toUInt32.toInt32))
def Q1 (Z : State) (p1 : Int32) (h0 : Heap) (n0 : Nat) (v : Option Value) (h : Heap) (L : List Loc) : Prop := v = some (.int (f1 p1)) ∧ Fr n0 L ∧ h = h0
set_option maxRecDepth 65536 in
set_option maxHeartbeats 40000000 in
theorem rm1 (l : Launch) (Z : State) (a0 : Array Value) (hw : ∀ d ∈ tables_1, d.before a0 Z = true) (ws : List Jvm.Cond) (p1 : Int32) (h0 : Heap) (n0 : Nat) (Z0 : n0 ≤ h0.size) :
    MetFree l y_0 (head1 (Jvm.Cond.code y_0 prog_22_method_3_code 1 (some .char) :: ws) ({ frames := 0, cells := 0, slots := 0, locals := 0 } : Room)) (fun a U => a = #[(.int p1)] ∧ Z.Warmed39 U.vm ∧ U.heap = h0) (fun _ _ _ _ _ => True) (fun _ U o U' => ∃ v L, o = .returned v ∧ Q1 Z p1 h0 n0 v U'.heap L ∧ FrameEnd U o U' L ({ frames := 0, cells := 0, slots := 0, locals := 0 } : Room).cells ({ frames := 0, cells := 0, slots := 0, locals := 0 } : Room).slots) := by
  refine MetFree.of_bodySF (plainFor_of_name pn_1) hisR ?_
  intro p e s m args below meth c s₁ Bd hml0 hP hK
  obtain ⟨rfl, hZ, hh⟩ := hP
  have hx := Bd.exec
  have hby := Bd.bytes
  have hml : c.maxLocals = 1 := hml0
  have hown : s.vm.findClass "com/example/keylint/keylint/Line" = some m.cls := findClass_of_methodNamed Bd.named
  have hnm := (name_of_methodNamed Bd.named Bd.method).1
  have X0 : Stand p l e ({ frames := 0, cells := 0, slots := 0, locals := 0 } : Room) s m #[(.int p1)] below meth c s₁ [] 0 0 := Stand.of_body Bd
  have e0 : s₁.heap = h0 := by rw [← hh, Bd.state]; rfl
  have N0 := Fr.nil n0
  obtain ⟨F0, hF0⟩ : ∃ F : JFrame, F = entryFrame m #[(.int p1)] 1 := ⟨_, rfl⟩
  have pre0 : ∀ t, Steps p.tables e below (s₁.setTop F0) t → Steps p.tables e below (s₁.setTop (entryFrame m #[(.int p1)] 1)) t := fun t k => hF0 ▸ k
  have go0 : Go p e below s₁ F0 s₁ (mkF m 0 #[vi p1] []) := fun t k => castTop (hF0.trans (ef_1 m p1)) k
  have go1 : Go p e below s₁ F0 s₁ (mkF m 14 #[vi p1] [(.int (((p1 &&& (255 : Int32)) ||| ((p1 >>> ((31 : Int32) &&& 31)) &&& (56320 : Int32))).toUInt32.toUInt16.toUInt32.toInt32))]) := by
    intro t kt
    refine go0 t ?_
    refine o_iloadN X0 hx (hb hby d1_0) rfl ?_
    refine o_sipush X0 hx (hb hby d1_1) (v := 255) rfl ?_
    refine o_iand X0 hx (hb hby d1_4) ?_
    refine o_iloadN X0 hx (hb hby d1_5) rfl ?_
    refine o_bipush X0 hx (hb hby d1_6) (v := 31) rfl ?_
    refine o_ishr X0 hx (hb hby d1_8) ?_
    refine o_ldc X0 hx hown (mvT hZ (own_w hw 5 rfl)) (hb hby d1_9) ?_
    refine o_iand X0 hx (hb hby d1_11) ?_
    refine o_ior X0 hx (hb hby d1_12) ?_
    refine o_i2c X0 hx (hb hby d1_13) ?_
    exact kt
  obtain ⟨fs, hr, hrun, hended, hW, hsame⟩ := X0.leave (v := some (.int (nar .char (((p1 &&& (255 : Int32)) ||| ((p1 >>> ((31 : Int32) &&& 31)) &&& (56320 : Int32))).toUInt32.toUInt16.toUInt32.toInt32)))) (fun h => by rw [Bd.returns] at h; cases h)
  refine ⟨_, _, pre0 _ (go1 _ ?_), hrun, hended, _, _, rfl, ?_, ⟨_, rfl⟩, hW, hsame.mono (by decide) (by decide)⟩
  · skip
    exact retN X0 hx (t := .char) Bd.returns (by simp) (hb hby d1_14) hr
  · show Q1 Z p1 h0 n0 _ s₁.heap _
    rw [e0]
    exact ⟨(congrArg (fun z => some (Value.int z)) (show (nar .char (((p1 &&& (255 : Int32)) ||| ((p1 >>> ((31 : Int32) &&& 31)) &&& (56320 : Int32))).toUInt32.toUInt16.toUInt32.toInt32)) = f1 p1 from by unfold f1; rfl)), N0, rfl⟩

theorem d2_0 : decode prog_22_method_5_code 0 = .ok (.iload_n 0, 1) := by decide +kernel
theorem d2_1 : decode prog_22_method_5_code 1 = .ok (.ldc 37, 2) := by decide +kernel
theorem d2_3 : decode prog_22_method_5_code 3 = .ok (.if_icmp .lt 16, 3) := by decide +kernel
theorem d2_6 : decode prog_22_method_5_code 6 = .ok (.iload_n 0, 1) := by decide +kernel
theorem d2_7 : decode prog_22_method_5_code 7 = .ok (.ldc 38, 2) := by decide +kernel
theorem d2_9 : decode prog_22_method_5_code 9 = .ok (.if_icmp .gt 10, 3) := by decide +kernel
theorem d2_12 : decode prog_22_method_5_code 12 = .ok (.iload_n 0, 1) := by decide +kernel
theorem d2_13 : decode prog_22_method_5_code 13 = .ok (.ldc 36, 2) := by decide +kernel
theorem d2_15 : decode prog_22_method_5_code 15 = .ok (.isub, 1) := by decide +kernel
theorem d2_16 : decode prog_22_method_5_code 16 = .ok (.goto 4, 3) := by decide +kernel
theorem d2_19 : decode prog_22_method_5_code 19 = .ok (.iconst (-1), 1) := by decide +kernel
theorem d2_20 : decode prog_22_method_5_code 20 = .ok (.ireturn, 1) := by decide +kernel
theorem pn_2 : plainName "com/example/keylint/keylint/Line" = true := by first | (simp [plainName, overriddenIn]; done) | decide +kernel
theorem ef_2 (m : MethodId) (x0 : Int32) : entryFrame m #[(.int x0)] 1 = mkF m 0 #[vi x0] [] := by first | (simp [entryFrame, mkF, argsToLocals, Value.category]; done) | rfl
def f2 (p1 : Int32) : Int32 := (if p1 < (56448 : Int32) then (-1 : Int32) else (if (56575 : Int32) < p1 then (-1 : Int32) else (p1 - (56320 : Int32))))
def Q2 (Z : State) (p1 : Int32) (h0 : Heap) (n0 : Nat) (v : Option Value) (h : Heap) (L : List Loc) : Prop := v = some (.int (f2 p1)) ∧ Fr n0 L ∧ h = h0
set_option maxRecDepth 65536 in
set_option maxHeartbeats 40000000 in
theorem rm2 (l : Launch) (Z : State) (a0 : Array Value) (hw : ∀ d ∈ tables_1, d.before a0 Z = true) (ws : List Jvm.Cond) (p1 : Int32) (h0 : Heap) (n0 : Nat) (Z0 : n0 ≤ h0.size) :
    MetFree l y_1 (head1 (Jvm.Cond.code y_1 prog_22_method_5_code 1 (some .int) :: ws) ({ frames := 0, cells := 0, slots := 0, locals := 0 } : Room)) (fun a U => a = #[(.int p1)] ∧ Z.Warmed39 U.vm ∧ U.heap = h0) (fun _ _ _ _ _ => True) (fun _ U o U' => ∃ v L, o = .returned v ∧ Q2 Z p1 h0 n0 v U'.heap L ∧ FrameEnd U o U' L ({ frames := 0, cells := 0, slots := 0, locals := 0 } : Room).cells ({ frames := 0, cells := 0, slots := 0, locals := 0 } : Room).slots) := by
  refine MetFree.of_bodySF (plainFor_of_name pn_2) hisR ?_
  intro p e s m args below meth c s₁ Bd hml0 hP hK
  obtain ⟨rfl, hZ, hh⟩ := hP
  have hx := Bd.exec
  have hby := Bd.bytes
  have hml : c.maxLocals = 1 := hml0
  have hown : s.vm.findClass "com/example/keylint/keylint/Line" = some m.cls := findClass_of_methodNamed Bd.named
  have hnm := (name_of_methodNamed Bd.named Bd.method).1
  have X0 : Stand p l e ({ frames := 0, cells := 0, slots := 0, locals := 0 } : Room) s m #[(.int p1)] below meth c s₁ [] 0 0 := Stand.of_body Bd
  have e0 : s₁.heap = h0 := by rw [← hh, Bd.state]; rfl
  have N0 := Fr.nil n0
  obtain ⟨F0, hF0⟩ : ∃ F : JFrame, F = entryFrame m #[(.int p1)] 1 := ⟨_, rfl⟩
  have pre0 : ∀ t, Steps p.tables e below (s₁.setTop F0) t → Steps p.tables e below (s₁.setTop (entryFrame m #[(.int p1)] 1)) t := fun t k => hF0 ▸ k
  have go0 : Go p e below s₁ F0 s₁ (mkF m 0 #[vi p1] []) := fun t k => castTop (hF0.trans (ef_2 m p1)) k
  have go1 : Go p e below s₁ F0 s₁ (mkF m 3 #[vi p1] [(.int (56448 : Int32)), (.int p1)]) := by
    intro t kt
    refine go0 t ?_
    refine o_iloadN X0 hx (hb hby d2_0) rfl ?_
    refine o_ldc X0 hx hown (mvT hZ (own_w hw 9 rfl)) (hb hby d2_1) ?_
    exact kt
  by_cases hc3_2 : p1 < (56448 : Int32)
  · skip
    have go3 : Go p e below s₁ F0 s₁ (mkF m 20 #[vi p1] [(.int (-1 : Int32))]) := by
      intro t kt
      refine go1 t ?_
      refine o_icmpYes X0 hx (hb hby d2_3) (pc' := 19) rfl (by decide) (tlt hc3_2).1 ?_
      refine o_iconst X0 hx (hb hby d2_19) (v := -1) rfl ?_
      exact kt
    obtain ⟨fs, hr, hrun, hended, hW, hsame⟩ := X0.leave (v := some (.int (-1 : Int32))) (fun h => by rw [Bd.returns] at h; cases h)
    refine ⟨_, _, pre0 _ (go3 _ ?_), hrun, hended, _, _, rfl, ?_, ⟨_, rfl⟩, hW, hsame.mono (by decide) (by decide)⟩
    · skip
      exact retI X0 hx Bd.returns (hb hby d2_20) hr
    · show Q2 Z p1 h0 n0 _ s₁.heap _
      rw [e0]
      exact ⟨(congrArg (fun z => some (Value.int z)) (show (-1 : Int32) = f2 p1 from by unfold f2; rw [if_pos hc3_2])), N0, rfl⟩
  · skip
    have go4 : Go p e below s₁ F0 s₁ (mkF m 9 #[vi p1] [(.int (56575 : Int32)), (.int p1)]) := by
      intro t kt
      refine go1 t ?_
      refine o_icmpNo X0 hx (hb hby d2_3) (flt hc3_2).1 ?_
      refine o_iloadN X0 hx (hb hby d2_6) rfl ?_
      refine o_ldc X0 hx hown (mvT hZ (own_w hw 15 rfl)) (hb hby d2_7) ?_
      exact kt
    by_cases hc9_5 : (56575 : Int32) < p1
    · skip
      have go6 : Go p e below s₁ F0 s₁ (mkF m 20 #[vi p1] [(.int (-1 : Int32))]) := by
        intro t kt
        refine go4 t ?_
        refine o_icmpYes X0 hx (hb hby d2_9) (pc' := 19) rfl (by decide) (tlt hc9_5).2.2.1 ?_
        refine o_iconst X0 hx (hb hby d2_19) (v := -1) rfl ?_
        exact kt
      obtain ⟨fs, hr, hrun, hended, hW, hsame⟩ := X0.leave (v := some (.int (-1 : Int32))) (fun h => by rw [Bd.returns] at h; cases h)
      refine ⟨_, _, pre0 _ (go6 _ ?_), hrun, hended, _, _, rfl, ?_, ⟨_, rfl⟩, hW, hsame.mono (by decide) (by decide)⟩
      · skip
        exact retI X0 hx Bd.returns (hb hby d2_20) hr
      · show Q2 Z p1 h0 n0 _ s₁.heap _
        rw [e0]
        exact ⟨(congrArg (fun z => some (Value.int z)) (show (-1 : Int32) = f2 p1 from by unfold f2; rw [if_neg hc3_2, if_pos hc9_5])), N0, rfl⟩
    · skip
      have go7 : Go p e below s₁ F0 s₁ (mkF m 20 #[vi p1] [(.int (p1 - (56320 : Int32)))]) := by
        intro t kt
        refine go4 t ?_
        refine o_icmpNo X0 hx (hb hby d2_9) (flt hc9_5).2.2.1 ?_
        refine o_iloadN X0 hx (hb hby d2_12) rfl ?_
        refine o_ldc X0 hx hown (mvT hZ (own_w hw 5 rfl)) (hb hby d2_13) ?_
        refine o_isub X0 hx (hb hby d2_15) ?_
        refine o_goto X0 hx (hb hby d2_16) (pc' := 20) rfl (by decide) ?_
        exact kt
      obtain ⟨fs, hr, hrun, hended, hW, hsame⟩ := X0.leave (v := some (.int (p1 - (56320 : Int32)))) (fun h => by rw [Bd.returns] at h; cases h)
      refine ⟨_, _, pre0 _ (go7 _ ?_), hrun, hended, _, _, rfl, ?_, ⟨_, rfl⟩, hW, hsame.mono (by decide) (by decide)⟩
      · skip
        exact retI X0 hx Bd.returns (hb hby d2_20) hr
      · show Q2 Z p1 h0 n0 _ s₁.heap _
        rw [e0]
        exact ⟨(congrArg (fun z => some (Value.int z)) (show (p1 - (56320 : Int32)) = f2 p1 from by unfold f2; rw [if_neg hc3_2, if_neg hc9_5])), N0, rfl⟩

theorem d4_0 : decode prog_22_method_2_code 0 = .ok (.ldc 36, 2) := by decide +kernel
theorem d4_2 : decode prog_22_method_2_code 2 = .ok (.iload_n 0, 1) := by decide +kernel
theorem d4_3 : decode prog_22_method_2_code 3 = .ok (.sipush 255, 3) := by decide +kernel
theorem d4_6 : decode prog_22_method_2_code 6 = .ok (.iand, 1) := by decide +kernel
theorem d4_7 : decode prog_22_method_2_code 7 = .ok (.ior, 1) := by decide +kernel
theorem d4_8 : decode prog_22_method_2_code 8 = .ok (.i2c, 1) := by decide +kernel
theorem d4_9 : decode prog_22_method_2_code 9 = .ok (.ireturn, 1) := by decide +kernel
theorem pn_4 : plainName "com/example/keylint/keylint/Line" = true := by first | (simp [plainName, overriddenIn]; done) | decide +kernel
theorem ef_4 (m : MethodId) (x0 : Int32) : entryFrame m #[(.int x0)] 1 = mkF m 0 #[vi x0] [] := by first | (simp [entryFrame, mkF, argsToLocals, Value.category]; done) | rfl
def f4 (p1 : Int32) : Int32 := (nar .char (((56320 : Int32) ||| (p1 &&& (255 : Int32))).toUInt32.toUInt16.toUInt32.toInt32))
def Q4 (Z : State) (p1 : Int32) (h0 : Heap) (n0 : Nat) (v : Option Value) (h : Heap) (L : List Loc) : Prop := v = some (.int (f4 p1)) ∧ Fr n0 L ∧ h = h0
set_option maxRecDepth 65536 in
set_option maxHeartbeats 40000000 in
theorem rm4 (l : Launch) (Z : State) (a0 : Array Value) (hw : ∀ d ∈ tables_1, d.before a0 Z = true) (ws : List Jvm.Cond) (p1 : Int32) (h0 : Heap) (n0 : Nat) (Z0 : n0 ≤ h0.size) :
    MetFree l y_2 (head1 (Jvm.Cond.code y_2 prog_22_method_2_code 1 (some .char) :: ws) ({ frames := 0, cells := 0, slots := 0, locals := 0 } : Room)) (fun a U => a = #[(.int p1)] ∧ Z.Warmed39 U.vm ∧ U.heap = h0) (fun _ _ _ _ _ => True) (fun _ U o U' => ∃ v L, o = .returned v ∧ Q4 Z p1 h0 n0 v U'.heap L ∧ FrameEnd U o U' L ({ frames := 0, cells := 0, slots := 0, locals := 0 } : Room).cells ({ frames := 0, cells := 0, slots := 0, locals := 0 } : Room).slots) := by
  refine MetFree.of_bodySF (plainFor_of_name pn_4) hisR ?_
  intro p e s m args below meth c s₁ Bd hml0 hP hK
  obtain ⟨rfl, hZ, hh⟩ := hP
  have hx := Bd.exec
  have hby := Bd.bytes
  have hml : c.maxLocals = 1 := hml0
  have hown : s.vm.findClass "com/example/keylint/keylint/Line" = some m.cls := findClass_of_methodNamed Bd.named
  have hnm := (name_of_methodNamed Bd.named Bd.method).1
  have X0 : Stand p l e ({ frames := 0, cells := 0, slots := 0, locals := 0 } : Room) s m #[(.int p1)] below meth c s₁ [] 0 0 := Stand.of_body Bd
  have e0 : s₁.heap = h0 := by rw [← hh, Bd.state]; rfl
  have N0 := Fr.nil n0
  obtain ⟨F0, hF0⟩ : ∃ F : JFrame, F = entryFrame m #[(.int p1)] 1 := ⟨_, rfl⟩
  have pre0 : ∀ t, Steps p.tables e below (s₁.setTop F0) t → Steps p.tables e below (s₁.setTop (entryFrame m #[(.int p1)] 1)) t := fun t k => hF0 ▸ k
  have go0 : Go p e below s₁ F0 s₁ (mkF m 0 #[vi p1] []) := fun t k => castTop (hF0.trans (ef_4 m p1)) k
  have go1 : Go p e below s₁ F0 s₁ (mkF m 9 #[vi p1] [(.int (((56320 : Int32) ||| (p1 &&& (255 : Int32))).toUInt32.toUInt16.toUInt32.toInt32))]) := by
    intro t kt
    refine go0 t ?_
    refine o_ldc X0 hx hown (mvT hZ (own_w hw 5 rfl)) (hb hby d4_0) ?_
    refine o_iloadN X0 hx (hb hby d4_2) rfl ?_
    refine o_sipush X0 hx (hb hby d4_3) (v := 255) rfl ?_
    refine o_iand X0 hx (hb hby d4_6) ?_
    refine o_ior X0 hx (hb hby d4_7) ?_
    refine o_i2c X0 hx (hb hby d4_8) ?_
    exact kt
  obtain ⟨fs, hr, hrun, hended, hW, hsame⟩ := X0.leave (v := some (.int (nar .char (((56320 : Int32) ||| (p1 &&& (255 : Int32))).toUInt32.toUInt16.toUInt32.toInt32)))) (fun h => by rw [Bd.returns] at h; cases h)
  refine ⟨_, _, pre0 _ (go1 _ ?_), hrun, hended, _, _, rfl, ?_, ⟨_, rfl⟩, hW, hsame.mono (by decide) (by decide)⟩
  · skip
    exact retN X0 hx (t := .char) Bd.returns (by simp) (hb hby d4_9) hr
  · show Q4 Z p1 h0 n0 _ s₁.heap _
    rw [e0]
    exact ⟨(congrArg (fun z => some (Value.int z)) (show (nar .char (((56320 : Int32) ||| (p1 &&& (255 : Int32))).toUInt32.toUInt16.toUInt32.toInt32)) = f4 p1 from by unfold f4; rfl)), N0, rfl⟩

theorem d3_0 : decode method_2_code 0 = .ok (.iload_n 0, 1) := by decide +kernel
theorem d3_1 : decode method_2_code 1 = .ok (.invokestatic 7, 3) := by decide +kernel
theorem d3_4 : decode method_2_code 4 = .ok (.istore_n 1, 1) := by decide +kernel
theorem d3_5 : decode method_2_code 5 = .ok (.iload_n 0, 1) := by decide +kernel
theorem d3_6 : decode method_2_code 6 = .ok (.ldc 13, 2) := by decide +kernel
theorem d3_8 : decode method_2_code 8 = .ok (.isub, 1) := by decide +kernel
theorem d3_9 : decode method_2_code 9 = .ok (.bipush (-128), 2) := by decide +kernel
theorem d3_11 : decode method_2_code 11 = .ok (.iand, 1) := by decide +kernel
theorem d3_12 : decode method_2_code 12 = .ok (.ifCond .ne 7, 3) := by decide +kernel
theorem d3_15 : decode method_2_code 15 = .ok (.iconst 1, 1) := by decide +kernel
theorem d3_16 : decode method_2_code 16 = .ok (.goto 4, 3) := by decide +kernel
theorem d3_19 : decode method_2_code 19 = .ok (.iconst 0, 1) := by decide +kernel
theorem d3_20 : decode method_2_code 20 = .ok (.istore_n 2, 1) := by decide +kernel
theorem d3_21 : decode method_2_code 21 = .ok (.iload_n 2, 1) := by decide +kernel
theorem d3_22 : decode method_2_code 22 = .ok (.ifCond .eq 40, 3) := by decide +kernel
theorem d3_25 : decode method_2_code 25 = .ok (.iload_n 1, 1) := by decide +kernel
theorem d3_26 : decode method_2_code 26 = .ok (.iload_n 0, 1) := by decide +kernel
theorem d3_27 : decode method_2_code 27 = .ok (.ldc 14, 2) := by decide +kernel
theorem d3_29 : decode method_2_code 29 = .ok (.isub, 1) := by decide +kernel
theorem d3_30 : decode method_2_code 30 = .ok (.if_icmp .ne 30, 3) := by decide +kernel
theorem d3_33 : decode method_2_code 33 = .ok (.iload_n 1, 1) := by decide +kernel
theorem d3_34 : decode method_2_code 34 = .ok (.sipush 128, 3) := by decide +kernel
theorem d3_37 : decode method_2_code 37 = .ok (.if_icmp .lt 23, 3) := by decide +kernel
theorem d3_40 : decode method_2_code 40 = .ok (.iload_n 1, 1) := by decide +kernel
theorem d3_41 : decode method_2_code 41 = .ok (.sipush 255, 3) := by decide +kernel
theorem d3_44 : decode method_2_code 44 = .ok (.if_icmp .gt 16, 3) := by decide +kernel
theorem d3_47 : decode method_2_code 47 = .ok (.iload_n 1, 1) := by decide +kernel
theorem d3_48 : decode method_2_code 48 = .ok (.i2b, 1) := by decide +kernel
theorem d3_49 : decode method_2_code 49 = .ok (.invokestatic 15, 3) := by decide +kernel
theorem d3_52 : decode method_2_code 52 = .ok (.iload_n 0, 1) := by decide +kernel
theorem d3_53 : decode method_2_code 53 = .ok (.if_icmp .ne 7, 3) := by decide +kernel
theorem d3_56 : decode method_2_code 56 = .ok (.iconst 1, 1) := by decide +kernel
theorem d3_57 : decode method_2_code 57 = .ok (.goto 4, 3) := by decide +kernel
theorem d3_60 : decode method_2_code 60 = .ok (.iconst 0, 1) := by decide +kernel
theorem d3_61 : decode method_2_code 61 = .ok (.ireturn, 1) := by decide +kernel
theorem d3_62 : decode method_2_code 62 = .ok (.iload_n 1, 1) := by decide +kernel
theorem d3_63 : decode method_2_code 63 = .ok (.iconst (-1), 1) := by decide +kernel
theorem d3_64 : decode method_2_code 64 = .ok (.if_icmp .ne 7, 3) := by decide +kernel
theorem d3_67 : decode method_2_code 67 = .ok (.iconst 1, 1) := by decide +kernel
theorem d3_68 : decode method_2_code 68 = .ok (.goto 4, 3) := by decide +kernel
theorem d3_71 : decode method_2_code 71 = .ok (.iconst 0, 1) := by decide +kernel
theorem d3_72 : decode method_2_code 72 = .ok (.ireturn, 1) := by decide +kernel
theorem pn_3 : plainName "com/example/keylint/keylint/LineCarriedPinLaw" = true := by first | (simp [plainName, overriddenIn]; done) | decide +kernel
theorem pd3_0 : parseMethodDescriptor "(I)I" = some ⟨[.int], some .int⟩ := by decide +kernel
theorem pd3_1 : parseMethodDescriptor "(B)C" = some ⟨[.byte], some .char⟩ := by decide +kernel
theorem ef_3 (m : MethodId) (x0 : Int32) : entryFrame m #[(.int x0)] 3 = mkF m 0 #[vi x0, .unset, .unset] [] := by first | (simp [entryFrame, mkF, argsToLocals, Value.category]; done) | rfl
def f3 (p1 : Int32) : Int32 := (if ((p1 - (56448 : Int32)) &&& (-128 : Int32)) = (0 : Int32) then (if (f2 p1) = (p1 - (56320 : Int32)) then (if (f2 p1) < (128 : Int32) then (0 : Int32) else (if (255 : Int32) < (f2 p1) then (0 : Int32) else (if (f4 ((f2 p1).toInt8.toInt32)) = p1 then (1 : Int32) else (0 : Int32)))) else (0 : Int32)) else (if (f2 p1) = (-1 : Int32) then (1 : Int32) else (0 : Int32)))
def Q3 (Z : State) (p1 : Int32) (h0 : Heap) (n0 : Nat) (v : Option Value) (h : Heap) (L : List Loc) : Prop := v = some (.int (f3 p1)) ∧ Fr n0 L ∧ h = h0
set_option maxRecDepth 65536 in
set_option maxHeartbeats 40000000 in
theorem rm3 (l : Launch) (Z : State) (a0 : Array Value) (hw : ∀ d ∈ tables_1, d.before a0 Z = true) (ws : List Jvm.Cond) (p1 : Int32) (h0 : Heap) (n0 : Nat) (Z0 : n0 ≤ h0.size) :
    MetFree l y_3 (head1 (Jvm.Cond.code y_3 method_2_code 3 (some .boolean) :: ws) ({ frames := 1, cells := 0, slots := 0, locals := 12 } : Room)) (fun a U => a = #[(.int p1)] ∧ Z.Warmed39 U.vm ∧ U.heap = h0) (fun _ _ _ _ _ => True) (fun _ U o U' => ∃ v L, o = .returned v ∧ Q3 Z p1 h0 n0 v U'.heap L ∧ FrameEnd U o U' L ({ frames := 1, cells := 0, slots := 0, locals := 12 } : Room).cells ({ frames := 1, cells := 0, slots := 0, locals := 12 } : Room).slots) := by
  refine MetFree.of_bodySF (plainFor_of_name pn_3) hisR ?_
  intro p e s m args below meth c s₁ Bd hml0 hP hK
  obtain ⟨rfl, hZ, hh⟩ := hP
  have hx := Bd.exec
  have hby := Bd.bytes
  have hml : c.maxLocals = 3 := hml0
  have hown : s.vm.findClass "com/example/keylint/keylint/LineCarriedPinLaw" = some m.cls := findClass_of_methodNamed Bd.named
  have hnm := (name_of_methodNamed Bd.named Bd.method).1
  have X0 : Stand p l e ({ frames := 1, cells := 0, slots := 0, locals := 12 } : Room) s m #[(.int p1)] below meth c s₁ [] 0 0 := Stand.of_body Bd
  have e0 : s₁.heap = h0 := by rw [← hh, Bd.state]; rfl
  have N0 := Fr.nil n0
  obtain ⟨F0, hF0⟩ : ∃ F : JFrame, F = entryFrame m #[(.int p1)] 3 := ⟨_, rfl⟩
  have pre0 : ∀ t, Steps p.tables e below (s₁.setTop F0) t → Steps p.tables e below (s₁.setTop (entryFrame m #[(.int p1)] 3)) t := fun t k => hF0 ▸ k
  have go0 : Go p e below s₁ F0 s₁ (mkF m 0 #[vi p1, .unset, .unset] []) := fun t k => castTop (hF0.trans (ef_3 m p1)) k
  have go1 : Go p e below s₁ F0 s₁ (mkF m 1 #[vi p1, .unset, .unset] [(.int p1)]) := by
    intro t kt
    refine go0 t ?_
    refine o_iloadN X0 hx (hb hby d3_0) rfl ?_
    exact kt
  obtain ⟨_, _, ⟨T2, L2, k2, n2⟩, -, X2, ⟨Lc2, hQ2, l2, y2, z2⟩, st2⟩ := Jvm.LawKit.callS X0 hx (y := y_1) hown (mvT hZ (own_w hw 6 rfl)) (mvT hZ (own_w hw 7 rfl)) (mvT hZ (own_w hw 3 rfl)) (mvT hZ (own_w hw 8 rfl)) (by decide) (backOf (W := 0) (rm2 l Z a0 hw [] p1 h0 n0 Z0 ) hZ (own_w hw 8 rfl) (own_w hw 3 rfl) (by decide) (by decide)) (g := (mkF m 1 #[vi p1, .unset, .unset] [(.int p1)])) rfl (by rw [hml]; rfl) (argsL := [(.int p1)]) (rest := []) (lenOf pd3_0 rfl) rfl (by show 2 * 0 + _ ≤ _; exact Nat.le_of_eq rfl) (hb hby d3_1) (fun _ _ => ⟨rfl, e0, (by decide : 0 + 0 ≤ _), (by decide : 0 + 0 ≤ _)⟩)
  dsimp only [Pt.U, Pt.locs, Pt.cells, Pt.slots] at X2 l2 y2 z2 st2 hQ2
  subst l2 y2 z2
  obtain ⟨rfl, Nq2, eh2⟩ := hQ2
  have N2 := Fr.app N0 Nq2
  have go3 : Go p e below s₁ F0 T2 (mkF m 4 #[vi p1, .unset, .unset] [(.int (f2 p1))]) := fun t k => go1 t (st2 t k)
  have go4 : Go p e below s₁ F0 T2 (mkF m 12 #[vi p1, vi (f2 p1), .unset] [(.int ((p1 - (56448 : Int32)) &&& (-128 : Int32)))]) := by
    intro t kt
    refine go3 t ?_
    refine o_istoreN X2 hx (hb hby d3_4) (L' := #[vi p1, vi (f2 p1), .unset]) rfl ?_
    refine o_iloadN X2 hx (hb hby d3_5) rfl ?_
    refine o_ldc X2 hx hown (mvT hZ (own_w hw 14 rfl)) (hb hby d3_6) ?_
    refine o_isub X2 hx (hb hby d3_8) ?_
    refine o_bipush X2 hx (hb hby d3_9) (v := -128) rfl ?_
    refine o_iand X2 hx (hb hby d3_11) ?_
    exact kt
  by_cases hc12_5 : ((p1 - (56448 : Int32)) &&& (-128 : Int32)) = (0 : Int32)
  · skip
    have go6 : Go p e below s₁ F0 T2 (mkF m 30 #[vi p1, vi (f2 p1), vi (1 : Int32)] [(.int (p1 - (56320 : Int32))), (.int (f2 p1))]) := by
      intro t kt
      refine go4 t ?_
      refine o_ifNo X2 hx (hb hby d3_12) ((if0 _ _).trans (teq hc12_5).2) ?_
      refine o_iconst X2 hx (hb hby d3_15) (v := 1) rfl ?_
      refine o_goto X2 hx (hb hby d3_16) (pc' := 20) rfl (by decide) ?_
      refine o_istoreN X2 hx (hb hby d3_20) (L' := #[vi p1, vi (f2 p1), vi (1 : Int32)]) rfl ?_
      refine o_iloadN X2 hx (hb hby d3_21) rfl ?_
      refine o_ifNo X2 hx (hb hby d3_22) ((if0 _ _).trans (feq (by decide : ¬ ((1 : Int32) = (0 : Int32)))).1) ?_
      refine o_iloadN X2 hx (hb hby d3_25) rfl ?_
      refine o_iloadN X2 hx (hb hby d3_26) rfl ?_
      refine o_ldc X2 hx hown (mvT hZ (own_w hw 0 rfl)) (hb hby d3_27) ?_
      refine o_isub X2 hx (hb hby d3_29) ?_
      exact kt
    by_cases hc30_7 : (f2 p1) = (p1 - (56320 : Int32))
    · skip
      have go8 : Go p e below s₁ F0 T2 (mkF m 37 #[vi p1, vi (f2 p1), vi (1 : Int32)] [(.int (128 : Int32)), (.int (f2 p1))]) := by
        intro t kt
        refine go6 t ?_
        refine o_icmpNo X2 hx (hb hby d3_30) (teq hc30_7).2 ?_
        refine o_iloadN X2 hx (hb hby d3_33) rfl ?_
        refine o_sipush X2 hx (hb hby d3_34) (v := 128) rfl ?_
        exact kt
      by_cases hc37_9 : (f2 p1) < (128 : Int32)
      · skip
        have go10 : Go p e below s₁ F0 T2 (mkF m 61 #[vi p1, vi (f2 p1), vi (1 : Int32)] [(.int (0 : Int32))]) := by
          intro t kt
          refine go8 t ?_
          refine o_icmpYes X2 hx (hb hby d3_37) (pc' := 60) rfl (by decide) (tlt hc37_9).1 ?_
          refine o_iconst X2 hx (hb hby d3_60) (v := 0) rfl ?_
          exact kt
        obtain ⟨fs, hr, hrun, hended, hW, hsame⟩ := X2.leave (v := some (.int (0 : Int32))) (fun h => by rw [Bd.returns] at h; cases h)
        refine ⟨_, _, pre0 _ (go10 _ ?_), hrun, hended, _, _, rfl, ?_, ⟨_, rfl⟩, hW, hsame.mono (by decide) (by decide)⟩
        · skip
          exact retN X2 hx (t := .boolean) Bd.returns (by simp) (hb hby d3_61) hr
        · show Q3 Z p1 h0 n0 _ T2.heap _
          rw [eh2]
          exact ⟨(congrArg (fun z => some (Value.int z)) (show (0 : Int32) = f3 p1 from by unfold f3; rw [if_pos hc12_5, if_pos hc30_7, if_pos hc37_9])), N2, rfl⟩
      · skip
        have go11 : Go p e below s₁ F0 T2 (mkF m 44 #[vi p1, vi (f2 p1), vi (1 : Int32)] [(.int (255 : Int32)), (.int (f2 p1))]) := by
          intro t kt
          refine go8 t ?_
          refine o_icmpNo X2 hx (hb hby d3_37) (flt hc37_9).1 ?_
          refine o_iloadN X2 hx (hb hby d3_40) rfl ?_
          refine o_sipush X2 hx (hb hby d3_41) (v := 255) rfl ?_
          exact kt
        by_cases hc44_12 : (255 : Int32) < (f2 p1)
        · skip
          have go13 : Go p e below s₁ F0 T2 (mkF m 61 #[vi p1, vi (f2 p1), vi (1 : Int32)] [(.int (0 : Int32))]) := by
            intro t kt
            refine go11 t ?_
            refine o_icmpYes X2 hx (hb hby d3_44) (pc' := 60) rfl (by decide) (tlt hc44_12).2.2.1 ?_
            refine o_iconst X2 hx (hb hby d3_60) (v := 0) rfl ?_
            exact kt
          obtain ⟨fs, hr, hrun, hended, hW, hsame⟩ := X2.leave (v := some (.int (0 : Int32))) (fun h => by rw [Bd.returns] at h; cases h)
          refine ⟨_, _, pre0 _ (go13 _ ?_), hrun, hended, _, _, rfl, ?_, ⟨_, rfl⟩, hW, hsame.mono (by decide) (by decide)⟩
          · skip
            exact retN X2 hx (t := .boolean) Bd.returns (by simp) (hb hby d3_61) hr
          · show Q3 Z p1 h0 n0 _ T2.heap _
            rw [eh2]
            exact ⟨(congrArg (fun z => some (Value.int z)) (show (0 : Int32) = f3 p1 from by unfold f3; rw [if_pos hc12_5, if_pos hc30_7, if_neg hc37_9, if_pos hc44_12])), N2, rfl⟩
        · skip
          have go14 : Go p e below s₁ F0 T2 (mkF m 49 #[vi p1, vi (f2 p1), vi (1 : Int32)] [(.int ((f2 p1).toInt8.toInt32))]) := by
            intro t kt
            refine go11 t ?_
            refine o_icmpNo X2 hx (hb hby d3_44) (flt hc44_12).2.2.1 ?_
            refine o_iloadN X2 hx (hb hby d3_47) rfl ?_
            refine o_i2b X2 hx (hb hby d3_48) ?_
            exact kt
          obtain ⟨_, _, ⟨T15, L15, k15, n15⟩, -, X15, ⟨Lc15, hQ15, l15, y15, z15⟩, st15⟩ := Jvm.LawKit.callS X2 hx (y := y_2) hown (mvT hZ (own_w hw 16 rfl)) (mvT hZ (own_w hw 17 rfl)) (mvT hZ (own_w hw 3 rfl)) (mvT hZ (own_w hw 18 rfl)) (by decide) (backOf (W := 0) (rm4 l Z a0 hw [] ((f2 p1).toInt8.toInt32) h0 n0 Z0 ) hZ (own_w hw 18 rfl) (own_w hw 3 rfl) (by decide) (by decide)) (g := (mkF m 49 #[vi p1, vi (f2 p1), vi (1 : Int32)] [(.int ((f2 p1).toInt8.toInt32))])) rfl (by rw [hml]; rfl) (argsL := [(.int ((f2 p1).toInt8.toInt32))]) (rest := []) (lenOf pd3_1 rfl) rfl (by show 2 * 0 + _ ≤ _; exact Nat.le_of_eq rfl) (hb hby d3_49) (fun _ _ => ⟨rfl, eh2, (by decide : 0 + 0 ≤ _), (by decide : 0 + 0 ≤ _)⟩)
          dsimp only [Pt.U, Pt.locs, Pt.cells, Pt.slots] at X15 l15 y15 z15 st15 hQ15
          subst l15 y15 z15
          obtain ⟨rfl, Nq15, eh15⟩ := hQ15
          have N15 := Fr.app N2 Nq15
          have go16 : Go p e below s₁ F0 T15 (mkF m 52 #[vi p1, vi (f2 p1), vi (1 : Int32)] [(.int (f4 ((f2 p1).toInt8.toInt32)))]) := fun t k => go14 t (st15 t k)
          have go17 : Go p e below s₁ F0 T15 (mkF m 53 #[vi p1, vi (f2 p1), vi (1 : Int32)] [(.int p1), (.int (f4 ((f2 p1).toInt8.toInt32)))]) := by
            intro t kt
            refine go16 t ?_
            refine o_iloadN X15 hx (hb hby d3_52) rfl ?_
            exact kt
          by_cases hc53_18 : (f4 ((f2 p1).toInt8.toInt32)) = p1
          · skip
            have go19 : Go p e below s₁ F0 T15 (mkF m 61 #[vi p1, vi (f2 p1), vi (1 : Int32)] [(.int (1 : Int32))]) := by
              intro t kt
              refine go17 t ?_
              refine o_icmpNo X15 hx (hb hby d3_53) (teq hc53_18).2 ?_
              refine o_iconst X15 hx (hb hby d3_56) (v := 1) rfl ?_
              refine o_goto X15 hx (hb hby d3_57) (pc' := 61) rfl (by decide) ?_
              exact kt
            obtain ⟨fs, hr, hrun, hended, hW, hsame⟩ := X15.leave (v := some (.int (1 : Int32))) (fun h => by rw [Bd.returns] at h; cases h)
            refine ⟨_, _, pre0 _ (go19 _ ?_), hrun, hended, _, _, rfl, ?_, ⟨_, rfl⟩, hW, hsame.mono (by decide) (by decide)⟩
            · skip
              exact retN X15 hx (t := .boolean) Bd.returns (by simp) (hb hby d3_61) hr
            · show Q3 Z p1 h0 n0 _ T15.heap _
              rw [eh15]
              exact ⟨(congrArg (fun z => some (Value.int z)) (show (1 : Int32) = f3 p1 from by unfold f3; rw [if_pos hc12_5, if_pos hc30_7, if_neg hc37_9, if_neg hc44_12, if_pos hc53_18])), N15, rfl⟩
          · skip
            have go20 : Go p e below s₁ F0 T15 (mkF m 61 #[vi p1, vi (f2 p1), vi (1 : Int32)] [(.int (0 : Int32))]) := by
              intro t kt
              refine go17 t ?_
              refine o_icmpYes X15 hx (hb hby d3_53) (pc' := 60) rfl (by decide) (feq hc53_18).2 ?_
              refine o_iconst X15 hx (hb hby d3_60) (v := 0) rfl ?_
              exact kt
            obtain ⟨fs, hr, hrun, hended, hW, hsame⟩ := X15.leave (v := some (.int (0 : Int32))) (fun h => by rw [Bd.returns] at h; cases h)
            refine ⟨_, _, pre0 _ (go20 _ ?_), hrun, hended, _, _, rfl, ?_, ⟨_, rfl⟩, hW, hsame.mono (by decide) (by decide)⟩
            · skip
              exact retN X15 hx (t := .boolean) Bd.returns (by simp) (hb hby d3_61) hr
            · show Q3 Z p1 h0 n0 _ T15.heap _
              rw [eh15]
              exact ⟨(congrArg (fun z => some (Value.int z)) (show (0 : Int32) = f3 p1 from by unfold f3; rw [if_pos hc12_5, if_pos hc30_7, if_neg hc37_9, if_neg hc44_12, if_neg hc53_18])), N15, rfl⟩
    · skip
      have go21 : Go p e below s₁ F0 T2 (mkF m 61 #[vi p1, vi (f2 p1), vi (1 : Int32)] [(.int (0 : Int32))]) := by
        intro t kt
        refine go6 t ?_
        refine o_icmpYes X2 hx (hb hby d3_30) (pc' := 60) rfl (by decide) (feq hc30_7).2 ?_
        refine o_iconst X2 hx (hb hby d3_60) (v := 0) rfl ?_
        exact kt
      obtain ⟨fs, hr, hrun, hended, hW, hsame⟩ := X2.leave (v := some (.int (0 : Int32))) (fun h => by rw [Bd.returns] at h; cases h)
      refine ⟨_, _, pre0 _ (go21 _ ?_), hrun, hended, _, _, rfl, ?_, ⟨_, rfl⟩, hW, hsame.mono (by decide) (by decide)⟩
      · skip
        exact retN X2 hx (t := .boolean) Bd.returns (by simp) (hb hby d3_61) hr
      · show Q3 Z p1 h0 n0 _ T2.heap _
        rw [eh2]
        exact ⟨(congrArg (fun z => some (Value.int z)) (show (0 : Int32) = f3 p1 from by unfold f3; rw [if_pos hc12_5, if_neg hc30_7])), N2, rfl⟩
  · skip
    have go22 : Go p e below s₁ F0 T2 (mkF m 64 #[vi p1, vi (f2 p1), vi (0 : Int32)] [(.int (-1 : Int32)), (.int (f2 p1))]) := by
      intro t kt
      refine go4 t ?_
      refine o_ifYes X2 hx (hb hby d3_12) (pc' := 19) rfl (by decide) ((if0 _ _).trans (feq hc12_5).2) ?_
      refine o_iconst X2 hx (hb hby d3_19) (v := 0) rfl ?_
      refine o_istoreN X2 hx (hb hby d3_20) (L' := #[vi p1, vi (f2 p1), vi (0 : Int32)]) rfl ?_
      refine o_iloadN X2 hx (hb hby d3_21) rfl ?_
      refine o_ifYes X2 hx (hb hby d3_22) (pc' := 62) rfl (by decide) ((if0 _ _).trans (teq (by decide : (0 : Int32) = (0 : Int32))).1) ?_
      refine o_iloadN X2 hx (hb hby d3_62) rfl ?_
      refine o_iconst X2 hx (hb hby d3_63) (v := -1) rfl ?_
      exact kt
    by_cases hc64_23 : (f2 p1) = (-1 : Int32)
    · skip
      have go24 : Go p e below s₁ F0 T2 (mkF m 72 #[vi p1, vi (f2 p1), vi (0 : Int32)] [(.int (1 : Int32))]) := by
        intro t kt
        refine go22 t ?_
        refine o_icmpNo X2 hx (hb hby d3_64) (teq hc64_23).2 ?_
        refine o_iconst X2 hx (hb hby d3_67) (v := 1) rfl ?_
        refine o_goto X2 hx (hb hby d3_68) (pc' := 72) rfl (by decide) ?_
        exact kt
      obtain ⟨fs, hr, hrun, hended, hW, hsame⟩ := X2.leave (v := some (.int (1 : Int32))) (fun h => by rw [Bd.returns] at h; cases h)
      refine ⟨_, _, pre0 _ (go24 _ ?_), hrun, hended, _, _, rfl, ?_, ⟨_, rfl⟩, hW, hsame.mono (by decide) (by decide)⟩
      · skip
        exact retN X2 hx (t := .boolean) Bd.returns (by simp) (hb hby d3_72) hr
      · show Q3 Z p1 h0 n0 _ T2.heap _
        rw [eh2]
        exact ⟨(congrArg (fun z => some (Value.int z)) (show (1 : Int32) = f3 p1 from by unfold f3; rw [if_neg hc12_5, if_pos hc64_23])), N2, rfl⟩
    · skip
      have go25 : Go p e below s₁ F0 T2 (mkF m 72 #[vi p1, vi (f2 p1), vi (0 : Int32)] [(.int (0 : Int32))]) := by
        intro t kt
        refine go22 t ?_
        refine o_icmpYes X2 hx (hb hby d3_64) (pc' := 71) rfl (by decide) (feq hc64_23).2 ?_
        refine o_iconst X2 hx (hb hby d3_71) (v := 0) rfl ?_
        exact kt
      obtain ⟨fs, hr, hrun, hended, hW, hsame⟩ := X2.leave (v := some (.int (0 : Int32))) (fun h => by rw [Bd.returns] at h; cases h)
      refine ⟨_, _, pre0 _ (go25 _ ?_), hrun, hended, _, _, rfl, ?_, ⟨_, rfl⟩, hW, hsame.mono (by decide) (by decide)⟩
      · skip
        exact retN X2 hx (t := .boolean) Bd.returns (by simp) (hb hby d3_72) hr
      · show Q3 Z p1 h0 n0 _ T2.heap _
        rw [eh2]
        exact ⟨(congrArg (fun z => some (Value.int z)) (show (0 : Int32) = f3 p1 from by unfold f3; rw [if_neg hc12_5, if_neg hc64_23])), N2, rfl⟩

theorem own_split (v a b : BitVec 32) (h : a &&& b = 0#32) (h' : a ||| b = BitVec.allOnes 32) : (v &&& a) + (v &&& b) = v := by
  rw [BitVec.add_eq_or_of_and_eq_zero]
  · apply BitVec.eq_of_getLsbD_eq
    intro i hi
    have q := congrArg (fun z => z.getLsbD i) h'
    simp only [BitVec.getLsbD_or, BitVec.getLsbD_and, BitVec.getLsbD_allOnes, hi, decide_true] at q ⊢
    cases v.getLsbD i <;> simp_all
  · apply BitVec.eq_of_getLsbD_eq
    intro i hi
    have q := congrArg (fun z => z.getLsbD i) h
    simp only [BitVec.getLsbD_and, BitVec.getLsbD_zero] at q ⊢
    cases v.getLsbD i <;> simp_all
theorem own_nm7 (x : Int32) : (x &&& (-128 : Int32)).toInt = x.toInt - x.toInt % 128 := by
  have e : (x &&& (-128 : Int32)) + (x &&& (127 : Int32)) = x := by
    apply Int32.toBitVec_inj.mp
    exact own_split x.toBitVec (-128 : Int32).toBitVec (127 : Int32).toBitVec (by decide) (by decide)
  have h1 := c_mask x (127 : Int32) 7 (by decide) (by decide)
  have h2 := c_iadd (x &&& (-128 : Int32)) (x &&& (127 : Int32))
  rw [e] at h2
  have h3 := (x &&& (-128 : Int32)).toInt_lt; have h4 := (x &&& (-128 : Int32)).le_toInt
  have h5 := x.toInt_lt; have h6 := x.le_toInt
  have h7 : ((2 ^ 7 : Nat) : Int) = 128 := rfl
  rw [h7] at h1
  omega
theorem own_b (P : Int32 → Prop) (h : ∀ i : Fin 256, P (Int8.ofNat i.1).toInt32) (y : Int32) : P y.toInt8.toInt32 := by
  have q := h ⟨y.toInt8.toBitVec.toNat, y.toInt8.toBitVec.isLt⟩
  have e : Int8.ofNat y.toInt8.toBitVec.toNat = y.toInt8 := by
    apply Int8.toBitVec_inj.mp
    show BitVec.ofNat 8 _ = _
    simp
  rwa [e] at q

theorem own_neg (y : Int32) : y.toInt8.toInt32 < (0 : Int32) → f2 (f1 y.toInt8.toInt32) = (y.toInt8.toInt32 &&& (255 : Int32)) := own_b (fun b => b < (0 : Int32) → f2 (f1 b) = (b &&& (255 : Int32))) (by decide +kernel) y
theorem own_pos (y : Int32) : ¬ y.toInt8.toInt32 < (0 : Int32) → f2 (f1 y.toInt8.toInt32) = (-1 : Int32) := own_b (fun b => ¬ b < (0 : Int32) → f2 (f1 b) = (-1 : Int32)) (by decide +kernel) y
theorem own_mid : ∀ i : Fin 128, ¬ f3 (Int32.ofNat (56448 + i.1)) = (0 : Int32) := by decide +kernel
theorem own_check (v : Int32) : ¬ f3 v = (0 : Int32) := by
  by_cases h : 56448 ≤ v.toInt ∧ v.toInt ≤ 56575
  · have q := own_mid ⟨(v.toInt - 56448).toNat, by omega⟩
    have e : Int32.ofNat (56448 + (v.toInt - 56448).toNat) = v := by
      apply Int32.toInt_inj.mp
      rw [Int32.toInt_ofNat_of_lt (by omega)]
      omega
    rwa [e] at q
  · have h2 : f2 v = (-1 : Int32) := by
      unfold f2
      repeat' split
      all_goals first | rfl | (exfalso; simp only [Int32.lt_iff_toInt_lt, ← Int32.toInt_inj, show (56448 : Int32).toInt = 56448 from rfl, show (56575 : Int32).toInt = 56575 from rfl] at *; omega)
    have h3 : ¬ ((v - (56448 : Int32)) &&& (-128 : Int32)) = (0 : Int32) := by
      intro q
      have q2 := congrArg Int32.toInt q
      have q3 := own_nm7 (v - (56448 : Int32))
      have q4 := c_isub v (56448 : Int32)
      have := (v - (56448 : Int32)).toInt_lt; have := (v - (56448 : Int32)).le_toInt
      have := v.toInt_lt; have := v.le_toInt
      simp only [show (0 : Int32).toInt = 0 from rfl, show (56448 : Int32).toInt = 56448 from rfl] at *
      omega
    unfold f3
    rw [if_neg h3, if_pos h2]
    decide

theorem pn_0 : plainName "com/example/keylint/keylint/LineCarriedPinLaw" = true := by first | (simp [plainName, overriddenIn]; done) | decide +kernel
theorem pd0_0 : parseMethodDescriptor "(B)C" = some ⟨[.byte], some .char⟩ := by decide +kernel
theorem pd0_1 : parseMethodDescriptor "(I)I" = some ⟨[.int], some .int⟩ := by decide +kernel
theorem pd0_2 : parseMethodDescriptor "(I)Z" = some ⟨[.int], some .boolean⟩ := by decide +kernel
theorem ef_0 (m : MethodId) (x0 : Int32) (x1 : Int32) : entryFrame m #[(.int x0), (.int x1)] maxLocals = mkF m 0 #[vi x0, vi x1, .unset, .unset, .unset, .unset] [] := by first | (simp [entryFrame, mkF, argsToLocals, Value.category, maxLocals]; done) | rfl
def Q0 (Z : State) (p1 : Int32) (p2 : Int32) (h0 : Heap) (n0 : Nat) (v : Option Value) (h : Heap) (L : List Loc) : Prop := v = some (.int (1 : Int32)) ∧ Fr n0 L
set_option maxRecDepth 65536 in
set_option maxHeartbeats 40000000 in
theorem rm0 (l : Launch) (Z : State) (a0 : Array Value) (hw : ∀ d ∈ tables_1, d.before a0 Z = true) (ws : List Jvm.Cond) (p1 : Int32) (p2 : Int32) (h0 : Heap) (n0 : Nat) (Z0 : n0 ≤ h0.size) :
    MetFree l x (head1 (Jvm.Cond.code x code maxLocals ret :: ws) room_1) (fun a U => a = #[(.int p1), (.int p2)] ∧ Z.Warmed39 U.vm ∧ U.heap = h0) (fun _ _ _ _ _ => True) (fun _ U o U' => ∃ v L, o = .returned v ∧ Q0 Z p1 p2 h0 n0 v U'.heap L ∧ FrameEnd U o U' L room_1.cells room_1.slots) := by
  refine MetFree.of_bodySF (plainFor_of_name pn_0) hisR ?_
  intro p e s m args below meth c s₁ Bd hml0 hP hK
  obtain ⟨rfl, hZ, hh⟩ := hP
  have hx := Bd.exec
  have hby := Bd.bytes
  have hml : c.maxLocals = 6 := hml0
  have hown : s.vm.findClass "com/example/keylint/keylint/LineCarriedPinLaw" = some m.cls := findClass_of_methodNamed Bd.named
  have hnm := (name_of_methodNamed Bd.named Bd.method).1
  have X0 : Stand p l e room_1 s m #[(.int p1), (.int p2)] below meth c s₁ [] 0 0 := Stand.of_body Bd
  have e0 : s₁.heap = h0 := by rw [← hh, Bd.state]; rfl
  have N0 := Fr.nil n0
  obtain ⟨F0, hF0⟩ : ∃ F : JFrame, F = entryFrame m #[(.int p1), (.int p2)] maxLocals := ⟨_, rfl⟩
  have pre0 : ∀ t, Steps p.tables e below (s₁.setTop F0) t → Steps p.tables e below (s₁.setTop (entryFrame m #[(.int p1), (.int p2)] maxLocals)) t := fun t k => hF0 ▸ k
  have go0 : Go p e below s₁ F0 s₁ (mkF m 0 #[vi p1, vi p2, .unset, .unset, .unset, .unset] []) := fun t k => castTop (hF0.trans (ef_0 m p1 p2)) k
  have go1 : Go p e below s₁ F0 s₁ (mkF m 13 #[vi p1, vi p2, vi ((56320 : Int32) + (p2 % (512 : Int32))), vi (p2.toInt8.toInt32), .unset, .unset] [(.int (p2.toInt8.toInt32))]) := by
    intro t kt
    refine go0 t ?_
    refine o_ldc X0 hx hown (mvT hZ (own_w hw 0 rfl)) (hb hby at_0) ?_
    refine o_iloadN X0 hx (hb hby at_2) rfl ?_
    refine o_sipush X0 hx (hb hby at_3) (v := 512) rfl ?_
    refine o_irem X0 hx (hb hby at_6) (by decide) ?_
    refine o_iadd X0 hx (hb hby at_7) ?_
    refine o_istoreN X0 hx (hb hby at_8) (L' := #[vi p1, vi p2, vi ((56320 : Int32) + (p2 % (512 : Int32))), .unset, .unset, .unset]) rfl ?_
    refine o_iloadN X0 hx (hb hby at_9) rfl ?_
    refine o_i2b X0 hx (hb hby at_10) ?_
    refine o_istoreN X0 hx (hb hby at_11) (L' := #[vi p1, vi p2, vi ((56320 : Int32) + (p2 % (512 : Int32))), vi (p2.toInt8.toInt32), .unset, .unset]) rfl ?_
    refine o_iloadN X0 hx (hb hby at_12) rfl ?_
    exact kt
  obtain ⟨_, _, ⟨T2, L2, k2, n2⟩, -, X2, ⟨Lc2, hQ2, l2, y2, z2⟩, st2⟩ := Jvm.LawKit.callS X0 hx (y := y_0) hown (mvT hZ (own_w hw 1 rfl)) (mvT hZ (own_w hw 2 rfl)) (mvT hZ (own_w hw 3 rfl)) (mvT hZ (own_w hw 4 rfl)) (by decide) (backOf (W := 0) (rm1 l Z a0 hw [] (p2.toInt8.toInt32) h0 n0 Z0 ) hZ (own_w hw 4 rfl) (own_w hw 3 rfl) (by decide) (by decide)) (g := (mkF m 13 #[vi p1, vi p2, vi ((56320 : Int32) + (p2 % (512 : Int32))), vi (p2.toInt8.toInt32), .unset, .unset] [(.int (p2.toInt8.toInt32))])) rfl (by rw [hml]; rfl) (argsL := [(.int (p2.toInt8.toInt32))]) (rest := []) (lenOf pd0_0 rfl) rfl (by show 2 * 0 + _ ≤ _; exact Nat.le_of_eq rfl) (hb hby at_13) (fun _ _ => ⟨rfl, e0, (by decide : 0 + 0 ≤ _), (by decide : 0 + 0 ≤ _)⟩)
  dsimp only [Pt.U, Pt.locs, Pt.cells, Pt.slots] at X2 l2 y2 z2 st2 hQ2
  subst l2 y2 z2
  obtain ⟨rfl, Nq2, eh2⟩ := hQ2
  have N2 := Fr.app N0 Nq2
  have go3 : Go p e below s₁ F0 T2 (mkF m 16 #[vi p1, vi p2, vi ((56320 : Int32) + (p2 % (512 : Int32))), vi (p2.toInt8.toInt32), .unset, .unset] [(.int (f1 (p2.toInt8.toInt32)))]) := fun t k => go1 t (st2 t k)
  obtain ⟨_, _, ⟨T4, L4, k4, n4⟩, -, X4, ⟨Lc4, hQ4, l4, y4, z4⟩, st4⟩ := Jvm.LawKit.callS X2 hx (y := y_1) hown (mvT hZ (own_w hw 6 rfl)) (mvT hZ (own_w hw 7 rfl)) (mvT hZ (own_w hw 3 rfl)) (mvT hZ (own_w hw 8 rfl)) (by decide) (backOf (W := 0) (rm2 l Z a0 hw [] (f1 (p2.toInt8.toInt32)) h0 n0 Z0 ) hZ (own_w hw 8 rfl) (own_w hw 3 rfl) (by decide) (by decide)) (g := (mkF m 16 #[vi p1, vi p2, vi ((56320 : Int32) + (p2 % (512 : Int32))), vi (p2.toInt8.toInt32), .unset, .unset] [(.int (f1 (p2.toInt8.toInt32)))])) rfl (by rw [hml]; rfl) (argsL := [(.int (f1 (p2.toInt8.toInt32)))]) (rest := []) (lenOf pd0_1 rfl) rfl (by show 2 * 0 + _ ≤ _; exact Nat.le_of_eq rfl) (hb hby at_16) (fun _ _ => ⟨rfl, eh2, (by decide : 0 + 0 ≤ _), (by decide : 0 + 0 ≤ _)⟩)
  dsimp only [Pt.U, Pt.locs, Pt.cells, Pt.slots] at X4 l4 y4 z4 st4 hQ4
  subst l4 y4 z4
  obtain ⟨rfl, Nq4, eh4⟩ := hQ4
  have N4 := Fr.app N2 Nq4
  have go5 : Go p e below s₁ F0 T4 (mkF m 19 #[vi p1, vi p2, vi ((56320 : Int32) + (p2 % (512 : Int32))), vi (p2.toInt8.toInt32), .unset, .unset] [(.int (f2 (f1 (p2.toInt8.toInt32))))]) := fun t k => go3 t (st4 t k)
  have go6 : Go p e below s₁ F0 T4 (mkF m 22 #[vi p1, vi p2, vi ((56320 : Int32) + (p2 % (512 : Int32))), vi (p2.toInt8.toInt32), vi (f2 (f1 (p2.toInt8.toInt32))), .unset] [(.int (p2.toInt8.toInt32))]) := by
    intro t kt
    refine go5 t ?_
    refine o_istore X4 hx (hb hby at_19) (L' := #[vi p1, vi p2, vi ((56320 : Int32) + (p2 % (512 : Int32))), vi (p2.toInt8.toInt32), vi (f2 (f1 (p2.toInt8.toInt32))), .unset]) rfl ?_
    refine o_iloadN X4 hx (hb hby at_21) rfl ?_
    exact kt
  by_cases hc22_7 : (p2.toInt8.toInt32) < (0 : Int32)
  · skip
    have go9 : Go p e below s₁ F0 T4 (mkF m 32 #[vi p1, vi p2, vi ((56320 : Int32) + (p2 % (512 : Int32))), vi (p2.toInt8.toInt32), vi (f2 (f1 (p2.toInt8.toInt32))), .unset] [(.int ((p2.toInt8.toInt32) &&& (255 : Int32))), (.int (f2 (f1 (p2.toInt8.toInt32))))]) := by
      intro t kt
      refine go6 t ?_
      refine o_ifNo X4 hx (hb hby at_22) ((if0 _ _).trans (tlt hc22_7).2.1) ?_
      refine o_iload X4 hx (hb hby at_25) rfl ?_
      refine o_iloadN X4 hx (hb hby at_27) rfl ?_
      refine o_sipush X4 hx (hb hby at_28) (v := 255) rfl ?_
      refine o_iand X4 hx (hb hby at_31) ?_
      exact kt
    have hd8 : (f2 (f1 (p2.toInt8.toInt32))) = ((p2.toInt8.toInt32) &&& (255 : Int32)) := own_neg _ hc22_7
    have go10 : Go p e below s₁ F0 T4 (mkF m 59 #[vi p1, vi p2, vi ((56320 : Int32) + (p2 % (512 : Int32))), vi (p2.toInt8.toInt32), vi (f2 (f1 (p2.toInt8.toInt32))), vi (1 : Int32)] [(.int p1)]) := by
      intro t kt
      refine go9 t ?_
      refine o_icmpNo X4 hx (hb hby at_32) (teq hd8).2 ?_
      refine o_iconst X4 hx (hb hby at_35) (v := 1) rfl ?_
      refine o_goto X4 hx (hb hby at_36) (pc' := 40) rfl (by decide) ?_
      refine o_istore X4 hx (hb hby at_40) (L' := #[vi p1, vi p2, vi ((56320 : Int32) + (p2 % (512 : Int32))), vi (p2.toInt8.toInt32), vi (f2 (f1 (p2.toInt8.toInt32))), vi (1 : Int32)]) rfl ?_
      refine o_goto X4 hx (hb hby at_42) (pc' := 58) rfl (by decide) ?_
      refine o_iloadN X4 hx (hb hby at_58) rfl ?_
      exact kt
    obtain ⟨_, _, ⟨T11, L11, k11, n11⟩, -, X11, ⟨Lc11, hQ11, l11, y11, z11⟩, st11⟩ := Jvm.LawKit.callS X4 hx (y := y_3) hown (mvT hZ (own_w hw 10 rfl)) (mvT hZ (own_w hw 11 rfl)) (mvT hZ (own_w hw 12 rfl)) (mvT hZ (own_w hw 13 rfl)) (by decide) (backOf (W := 0) (rm3 l Z a0 hw [] p1 h0 n0 Z0 ) hZ (own_w hw 13 rfl) (own_w hw 12 rfl) (by decide) (by decide)) (g := (mkF m 59 #[vi p1, vi p2, vi ((56320 : Int32) + (p2 % (512 : Int32))), vi (p2.toInt8.toInt32), vi (f2 (f1 (p2.toInt8.toInt32))), vi (1 : Int32)] [(.int p1)])) rfl (by rw [hml]; rfl) (argsL := [(.int p1)]) (rest := []) (lenOf pd0_2 rfl) rfl (by show 2 * 0 + _ ≤ _; exact Nat.le_of_eq rfl) (hb hby at_59) (fun _ _ => ⟨rfl, eh4, (by decide : 0 + 0 ≤ _), (by decide : 0 + 0 ≤ _)⟩)
    dsimp only [Pt.U, Pt.locs, Pt.cells, Pt.slots] at X11 l11 y11 z11 st11 hQ11
    subst l11 y11 z11
    obtain ⟨rfl, Nq11, eh11⟩ := hQ11
    have N11 := Fr.app N4 Nq11
    have go12 : Go p e below s₁ F0 T11 (mkF m 62 #[vi p1, vi p2, vi ((56320 : Int32) + (p2 % (512 : Int32))), vi (p2.toInt8.toInt32), vi (f2 (f1 (p2.toInt8.toInt32))), vi (1 : Int32)] [(.int (f3 p1))]) := fun t k => go10 t (st11 t k)
    have hd13 : ¬ ((f3 p1) = (0 : Int32)) := own_check _
    have go14 : Go p e below s₁ F0 T11 (mkF m 66 #[vi p1, vi p2, vi ((56320 : Int32) + (p2 % (512 : Int32))), vi (p2.toInt8.toInt32), vi (f2 (f1 (p2.toInt8.toInt32))), vi (1 : Int32)] [(.int ((56320 : Int32) + (p2 % (512 : Int32))))]) := by
      intro t kt
      refine go12 t ?_
      refine o_ifNo X11 hx (hb hby at_62) ((if0 _ _).trans (feq hd13).1) ?_
      refine o_iloadN X11 hx (hb hby at_65) rfl ?_
      exact kt
    obtain ⟨_, _, ⟨T15, L15, k15, n15⟩, -, X15, ⟨Lc15, hQ15, l15, y15, z15⟩, st15⟩ := Jvm.LawKit.callS X11 hx (y := y_3) hown (mvT hZ (own_w hw 10 rfl)) (mvT hZ (own_w hw 11 rfl)) (mvT hZ (own_w hw 12 rfl)) (mvT hZ (own_w hw 13 rfl)) (by decide) (backOf (W := 0) (rm3 l Z a0 hw [] ((56320 : Int32) + (p2 % (512 : Int32))) h0 n0 Z0 ) hZ (own_w hw 13 rfl) (own_w hw 12 rfl) (by decide) (by decide)) (g := (mkF m 66 #[vi p1, vi p2, vi ((56320 : Int32) + (p2 % (512 : Int32))), vi (p2.toInt8.toInt32), vi (f2 (f1 (p2.toInt8.toInt32))), vi (1 : Int32)] [(.int ((56320 : Int32) + (p2 % (512 : Int32))))])) rfl (by rw [hml]; rfl) (argsL := [(.int ((56320 : Int32) + (p2 % (512 : Int32))))]) (rest := []) (lenOf pd0_2 rfl) rfl (by show 2 * 0 + _ ≤ _; exact Nat.le_of_eq rfl) (hb hby at_66) (fun _ _ => ⟨rfl, eh11, (by decide : 0 + 0 ≤ _), (by decide : 0 + 0 ≤ _)⟩)
    dsimp only [Pt.U, Pt.locs, Pt.cells, Pt.slots] at X15 l15 y15 z15 st15 hQ15
    subst l15 y15 z15
    obtain ⟨rfl, Nq15, eh15⟩ := hQ15
    have N15 := Fr.app N11 Nq15
    have go16 : Go p e below s₁ F0 T15 (mkF m 69 #[vi p1, vi p2, vi ((56320 : Int32) + (p2 % (512 : Int32))), vi (p2.toInt8.toInt32), vi (f2 (f1 (p2.toInt8.toInt32))), vi (1 : Int32)] [(.int (f3 ((56320 : Int32) + (p2 % (512 : Int32)))))]) := fun t k => go14 t (st15 t k)
    have hd17 : ¬ ((f3 ((56320 : Int32) + (p2 % (512 : Int32)))) = (0 : Int32)) := own_check _
    have go18 : Go p e below s₁ F0 T15 (mkF m 82 #[vi p1, vi p2, vi ((56320 : Int32) + (p2 % (512 : Int32))), vi (p2.toInt8.toInt32), vi (f2 (f1 (p2.toInt8.toInt32))), vi (1 : Int32)] [(.int (1 : Int32))]) := by
      intro t kt
      refine go16 t ?_
      refine o_ifNo X15 hx (hb hby at_69) ((if0 _ _).trans (feq hd17).1) ?_
      refine o_iload X15 hx (hb hby at_72) rfl ?_
      refine o_ifNo X15 hx (hb hby at_74) ((if0 _ _).trans (feq (by decide : ¬ ((1 : Int32) = (0 : Int32)))).1) ?_
      refine o_iconst X15 hx (hb hby at_77) (v := 1) rfl ?_
      refine o_goto X15 hx (hb hby at_78) (pc' := 82) rfl (by decide) ?_
      exact kt
    obtain ⟨fs, hr, hrun, hended, hW, hsame⟩ := X15.leave (v := some (.int (1 : Int32))) (fun h => by rw [Bd.returns] at h; cases h)
    refine ⟨_, _, pre0 _ (go18 _ ?_), hrun, hended, _, _, rfl, ?_, ⟨_, rfl⟩, hW, hsame.mono (by decide) (by decide)⟩
    · skip
      exact retN X15 hx (t := .boolean) Bd.returns (by simp) (hb hby at_82) hr
    · show Q0 Z p1 p2 h0 n0 _ T15.heap _
      rw [eh15]
      exact ⟨rfl, N15⟩
  · skip
    have go20 : Go p e below s₁ F0 T4 (mkF m 48 #[vi p1, vi p2, vi ((56320 : Int32) + (p2 % (512 : Int32))), vi (p2.toInt8.toInt32), vi (f2 (f1 (p2.toInt8.toInt32))), .unset] [(.int (-1 : Int32)), (.int (f2 (f1 (p2.toInt8.toInt32))))]) := by
      intro t kt
      refine go6 t ?_
      refine o_ifYes X4 hx (hb hby at_22) (pc' := 45) rfl (by decide) ((if0 _ _).trans (flt hc22_7).2.1) ?_
      refine o_iload X4 hx (hb hby at_45) rfl ?_
      refine o_iconst X4 hx (hb hby at_47) (v := -1) rfl ?_
      exact kt
    have hd19 : (f2 (f1 (p2.toInt8.toInt32))) = (-1 : Int32) := own_pos _ hc22_7
    have go21 : Go p e below s₁ F0 T4 (mkF m 59 #[vi p1, vi p2, vi ((56320 : Int32) + (p2 % (512 : Int32))), vi (p2.toInt8.toInt32), vi (f2 (f1 (p2.toInt8.toInt32))), vi (1 : Int32)] [(.int p1)]) := by
      intro t kt
      refine go20 t ?_
      refine o_icmpNo X4 hx (hb hby at_48) (teq hd19).2 ?_
      refine o_iconst X4 hx (hb hby at_51) (v := 1) rfl ?_
      refine o_goto X4 hx (hb hby at_52) (pc' := 56) rfl (by decide) ?_
      refine o_istore X4 hx (hb hby at_56) (L' := #[vi p1, vi p2, vi ((56320 : Int32) + (p2 % (512 : Int32))), vi (p2.toInt8.toInt32), vi (f2 (f1 (p2.toInt8.toInt32))), vi (1 : Int32)]) rfl ?_
      refine o_iloadN X4 hx (hb hby at_58) rfl ?_
      exact kt
    obtain ⟨_, _, ⟨T22, L22, k22, n22⟩, -, X22, ⟨Lc22, hQ22, l22, y22, z22⟩, st22⟩ := Jvm.LawKit.callS X4 hx (y := y_3) hown (mvT hZ (own_w hw 10 rfl)) (mvT hZ (own_w hw 11 rfl)) (mvT hZ (own_w hw 12 rfl)) (mvT hZ (own_w hw 13 rfl)) (by decide) (backOf (W := 0) (rm3 l Z a0 hw [] p1 h0 n0 Z0 ) hZ (own_w hw 13 rfl) (own_w hw 12 rfl) (by decide) (by decide)) (g := (mkF m 59 #[vi p1, vi p2, vi ((56320 : Int32) + (p2 % (512 : Int32))), vi (p2.toInt8.toInt32), vi (f2 (f1 (p2.toInt8.toInt32))), vi (1 : Int32)] [(.int p1)])) rfl (by rw [hml]; rfl) (argsL := [(.int p1)]) (rest := []) (lenOf pd0_2 rfl) rfl (by show 2 * 0 + _ ≤ _; exact Nat.le_of_eq rfl) (hb hby at_59) (fun _ _ => ⟨rfl, eh4, (by decide : 0 + 0 ≤ _), (by decide : 0 + 0 ≤ _)⟩)
    dsimp only [Pt.U, Pt.locs, Pt.cells, Pt.slots] at X22 l22 y22 z22 st22 hQ22
    subst l22 y22 z22
    obtain ⟨rfl, Nq22, eh22⟩ := hQ22
    have N22 := Fr.app N4 Nq22
    have go23 : Go p e below s₁ F0 T22 (mkF m 62 #[vi p1, vi p2, vi ((56320 : Int32) + (p2 % (512 : Int32))), vi (p2.toInt8.toInt32), vi (f2 (f1 (p2.toInt8.toInt32))), vi (1 : Int32)] [(.int (f3 p1))]) := fun t k => go21 t (st22 t k)
    have hd24 : ¬ ((f3 p1) = (0 : Int32)) := own_check _
    have go25 : Go p e below s₁ F0 T22 (mkF m 66 #[vi p1, vi p2, vi ((56320 : Int32) + (p2 % (512 : Int32))), vi (p2.toInt8.toInt32), vi (f2 (f1 (p2.toInt8.toInt32))), vi (1 : Int32)] [(.int ((56320 : Int32) + (p2 % (512 : Int32))))]) := by
      intro t kt
      refine go23 t ?_
      refine o_ifNo X22 hx (hb hby at_62) ((if0 _ _).trans (feq hd24).1) ?_
      refine o_iloadN X22 hx (hb hby at_65) rfl ?_
      exact kt
    obtain ⟨_, _, ⟨T26, L26, k26, n26⟩, -, X26, ⟨Lc26, hQ26, l26, y26, z26⟩, st26⟩ := Jvm.LawKit.callS X22 hx (y := y_3) hown (mvT hZ (own_w hw 10 rfl)) (mvT hZ (own_w hw 11 rfl)) (mvT hZ (own_w hw 12 rfl)) (mvT hZ (own_w hw 13 rfl)) (by decide) (backOf (W := 0) (rm3 l Z a0 hw [] ((56320 : Int32) + (p2 % (512 : Int32))) h0 n0 Z0 ) hZ (own_w hw 13 rfl) (own_w hw 12 rfl) (by decide) (by decide)) (g := (mkF m 66 #[vi p1, vi p2, vi ((56320 : Int32) + (p2 % (512 : Int32))), vi (p2.toInt8.toInt32), vi (f2 (f1 (p2.toInt8.toInt32))), vi (1 : Int32)] [(.int ((56320 : Int32) + (p2 % (512 : Int32))))])) rfl (by rw [hml]; rfl) (argsL := [(.int ((56320 : Int32) + (p2 % (512 : Int32))))]) (rest := []) (lenOf pd0_2 rfl) rfl (by show 2 * 0 + _ ≤ _; exact Nat.le_of_eq rfl) (hb hby at_66) (fun _ _ => ⟨rfl, eh22, (by decide : 0 + 0 ≤ _), (by decide : 0 + 0 ≤ _)⟩)
    dsimp only [Pt.U, Pt.locs, Pt.cells, Pt.slots] at X26 l26 y26 z26 st26 hQ26
    subst l26 y26 z26
    obtain ⟨rfl, Nq26, eh26⟩ := hQ26
    have N26 := Fr.app N22 Nq26
    have go27 : Go p e below s₁ F0 T26 (mkF m 69 #[vi p1, vi p2, vi ((56320 : Int32) + (p2 % (512 : Int32))), vi (p2.toInt8.toInt32), vi (f2 (f1 (p2.toInt8.toInt32))), vi (1 : Int32)] [(.int (f3 ((56320 : Int32) + (p2 % (512 : Int32)))))]) := fun t k => go25 t (st26 t k)
    have hd28 : ¬ ((f3 ((56320 : Int32) + (p2 % (512 : Int32)))) = (0 : Int32)) := own_check _
    have go29 : Go p e below s₁ F0 T26 (mkF m 82 #[vi p1, vi p2, vi ((56320 : Int32) + (p2 % (512 : Int32))), vi (p2.toInt8.toInt32), vi (f2 (f1 (p2.toInt8.toInt32))), vi (1 : Int32)] [(.int (1 : Int32))]) := by
      intro t kt
      refine go27 t ?_
      refine o_ifNo X26 hx (hb hby at_69) ((if0 _ _).trans (feq hd28).1) ?_
      refine o_iload X26 hx (hb hby at_72) rfl ?_
      refine o_ifNo X26 hx (hb hby at_74) ((if0 _ _).trans (feq (by decide : ¬ ((1 : Int32) = (0 : Int32)))).1) ?_
      refine o_iconst X26 hx (hb hby at_77) (v := 1) rfl ?_
      refine o_goto X26 hx (hb hby at_78) (pc' := 82) rfl (by decide) ?_
      exact kt
    obtain ⟨fs, hr, hrun, hended, hW, hsame⟩ := X26.leave (v := some (.int (1 : Int32))) (fun h => by rw [Bd.returns] at h; cases h)
    refine ⟨_, _, pre0 _ (go29 _ ?_), hrun, hended, _, _, rfl, ?_, ⟨_, rfl⟩, hW, hsame.mono (by decide) (by decide)⟩
    · skip
      exact retN X26 hx (t := .boolean) Bd.returns (by simp) (hb hby at_82) hr
    · show Q0 Z p1 p2 h0 n0 _ T26.heap _
      rw [eh26]
      exact ⟨rfl, N26⟩

set_option maxRecDepth 65536 in
set_option maxHeartbeats 40000000 in
theorem comes_1 {Post : Tables → Env → Array Value → State → Outcome → State → Prop} (hpost : ∀ tb e args s v u, (limb_1_1.after args s (.returned v) u = true ∧ limb_1_2.after args s (.returned v) u = true ∧ True) → FrameEnd s (.returned v) u (Jvm.fieldLocs frame_1_writes args s ++ Jvm.arrayLocs frame_1_arrays args s ++ Jvm.staticLocs frame_1_statics s) 0 0 → Post tb e args s (.returned v) u) :
    ArmFor flags0 classFile x code maxLocals ret World_1 tables_1 room_1 Calls_1 rest_1 Pre_1 Post := by
  intro l hfl _ _ p e ha hc hk s m args below hf hA hF happ hP
  obtain ⟨hcalls, hrest, hpre⟩ := hP
  obtain ⟨-, -, -, hnamed, -, -, -, hat⟩ := (Spec.applies_iff hf).mp happ
  obtain ⟨hg, hn⟩ := and_e (Cond.before_iff.mp (show (Jvm.Cond.and given_1 narrow_1).before args s = true from hpre))
  obtain ⟨g1, g2⟩ := and_e hg
  obtain ⟨g3, g4⟩ := and_e g2
  obtain ⟨w0, w1, rfl⟩ : ∃ w0 w1 : Value, args = #[w0, w1] := by
    have hs : args.size = 2 := by simpa [Cond.value, given_1] using g1
    obtain ⟨L⟩ := args
    match L, hs with
    | [w0, w1], _ => exact ⟨w0, w1, rfl⟩
  have hw := fun d (hd : d ∈ tables_1) => atoms_spec (ws := Jvm.Cond.code x code maxLocals ret :: tables_1) hat d (List.mem_cons_of_mem _ hd)
  have hfit : Fit s := fun {y c} hc i hi => by
    obtain ⟨ha, rfl⟩ := Array.getElem?_eq_some_iff.mp hc
    have q := List.all_eq_true.mp ((Array.all_eq_true_iff_forall_mem.mp hF) _ (Array.getElem_mem ha)) i (List.mem_range.mpr hi)
    simpa [Array.getElem?_eq_getElem hi] using q
  obtain ⟨i0, ei0⟩ := is_v g3
  obtain rfl : w0 = (.int i0) := Option.some.inj ei0
  obtain ⟨i1, ei1⟩ := is_v g4
  obtain rfl : w1 = (.int i1) := Option.some.inj ei1
  obtain ⟨n, o, h1, h2, h3, _, L, rfl, ⟨rfl, N⟩, hq⟩ := rm0 l s _ hw tables_1 i0 i1  s.heap s.heap.size (Nat.le_refl _)  p e ha hc hk s m _ below hf ((Spec.applies_iff_loose hf).mp happ).1 ⟨rfl, State.Warmed39.refl s, rfl⟩ trivial
  refine ⟨n, _, h1, h2, h3, hpost _ _ _ _ _ _ ⟨Cond.after_iff.mpr rfl, Cond.after_iff.mpr (eq_i res_at (Term.int_eval (1)) rfl), trivial⟩ ⟨hq.1, hq.2.1, (hq.2.2.sift fun y hy => Or.inr (N y hy)).mono (by decide) (by decide)⟩⟩
theorem main_1_1 : Claimed_1_1 := comes_1 fun _ _ _ _ _ _ h hF => ⟨h.1, hF⟩
theorem main_1_2 : Claimed_1_2 := comes_1 fun _ _ _ _ _ _ h hF => ⟨h.2.1, hF⟩
end Jvm.Pilot.@@N@@
namespace Jvm.Pilot.@@N@@
open Jvm Jvm.ClassFile Sem Op Lib Jvm.Free Jvm.Stand Jvm.Pilot.@@N@@.Jvm.D
/-! MADE BY PROGRAM (witnessworld.py) out of the Statement's table words and the real class files: 9 classes; the members and pool entries that the words name. The judged class is class 1, her method 2. -/
namespace start1
open Jvm.ClassFile
def u (s : String) : CpInfo := .utf8 (stringToUtf16 s)
/-- a pool by its gaps: so many unusable entries, then the entry; so many at the end -/
def gap : Nat → List CpInfo → List CpInfo
  | 0, r => r
  | n + 1, r => .unusable :: gap n r
def poolList (es : List (Nat × CpInfo)) (last : Nat) : List CpInfo := es.foldr (fun e r => gap e.1 (e.2 :: r)) (gap last [])
def pool (es : List (Nat × CpInfo)) (last : Nat) : Array CpInfo := ⟨poolList es last⟩
def fileOf (pool : Array CpInfo) (this : Nat) (attrs : Array Attribute := #[]) (ms : Array MethodInfo := #[]) (fl : Nat := 33) (sup : Nat := 0) (ifs : Array Nat := #[]) (fds : Array FieldInfo := #[]) : ClassFile where
  minorVersion := 0
  majorVersion := 65
  constantPool := pool
  accessFlags := fl
  thisClass := this
  superClass := sup
  interfaces := ifs
  fields := fds
  methods := ms
  attributes := attrs
def plain (name : String) (sup : Option ClassId) : Class where
  name := name
  kind := .ordinary
  loader := none
  accessFlags := 33
  super := sup
  interfaces := #[]
  cf := none
  fields := #[]
  methods := #[]
  instanceTypes := #[]
  staticTypes := #[]
  resolved := #[]
  callSites := []
  init := .initialized
  statics := none
  mirror := none

def pool0 : Array CpInfo := pool [(5, u "<init>"), (0, u "()V"), (1, .class_ 10), (1, u "java/lang/Object")] 113

def k0m0 : Method := { name := "<init>", desc := "()V", sig := { parameters := [], returnType := none }, accessFlags := 1, code := none }
/-- java/lang/Object -/
def k0 : Class := { plain "java/lang/Object" none with
  accessFlags := 33
  interfaces := #[]
  cf := some (fileOf pool0 8 #[] #[{ accessFlags := 1, nameIndex := 5, descriptorIndex := 6, attributes := #[] }] 33 0 #[] #[])
  fields := #[]
  methods := #[k0m0]
  instanceTypes := #[]
  staticTypes := #[]
  resolved := Array.replicate 124 none
  statics := none }

def pool1 : Array CpInfo := pool [(2, .class_ 4), (1, u "java/lang/Object"), (0, u "<init>"), (0, u "()V"), (0, .methodref 8 9), (0, .class_ 10), (0, .nameAndType 11 12), (0, u "com/example/keylint/keylint/Line"), (0, u "carried"), (0, u "(I)I"), (0, .integer 56448), (0, .integer 56320), (0, .methodref 8 16), (0, .nameAndType 17 18), (0, u "carry"), (0, u "(B)C"), (0, .methodref 8 20), (0, .nameAndType 21 18), (0, u "single"), (0, .methodref 23 24), (0, .class_ 25), (0, .nameAndType 26 27), (0, u "com/example/keylint/keylint/LineCarriedPinLaw"), (0, u "check"), (0, u "(I)Z"), (3, u "law"), (0, u "(II)Z")] 2

def k1m0 : Method := { name := "<init>", desc := "()V", sig := { parameters := [], returnType := none }, accessFlags := 2, code := none }
def k1c1 : Code := { maxStack := 3, maxLocals := 3, code := method_2_code, exceptionTable := #[], attributes := #[] }
def k1m1 : Method := { name := "check", desc := "(I)Z", sig := { parameters := [.int], returnType := some .boolean }, accessFlags := 10, code := some k1c1 }
def k1c2 : Code := { maxStack := 3, maxLocals := 6, code := code, exceptionTable := #[], attributes := #[] }
def k1m2 : Method := { name := "law", desc := "(II)Z", sig := { parameters := [.int, .int], returnType := some .boolean }, accessFlags := 9, code := some k1c2 }
/-- com/example/keylint/keylint/LineCarriedPinLaw -/
def k1 : Class := { plain "com/example/keylint/keylint/LineCarriedPinLaw" (some 0) with
  accessFlags := 49
  interfaces := #[]
  cf := some (fileOf pool1 23 #[] #[{ accessFlags := 2, nameIndex := 5, descriptorIndex := 6, attributes := #[] }, { accessFlags := 10, nameIndex := 26, descriptorIndex := 27, attributes := #[] }, { accessFlags := 9, nameIndex := 31, descriptorIndex := 32, attributes := #[] }] 49 2 #[] #[])
  fields := #[]
  methods := #[k1m0, k1m1, k1m2]
  instanceTypes := #[]
  staticTypes := #[]
  resolved := Array.replicate 35 none
  statics := none }

def pool2 : Array CpInfo := pool [(2, .class_ 4), (1, u "java/lang/Object"), (3, .class_ 10), (1, u "com/example/keylint/keylint/Line"), (0, u "number"), (0, u "J"), (1, u "text"), (10, u "Ljava/lang/String;"), (2, u "length"), (2, u "whole"), (0, u "Z"), (2, u "undecodedAt"), (0, .integer 56320), (0, .integer 56448), (0, .integer 56575), (30, u "CARRIED"), (0, u "I"), (4, u "carry"), (0, u "(B)C"), (0, u "single"), (3, u "carried"), (0, u "(I)I")] 26

def k2c0 : Code := { maxStack := 3, maxLocals := 1, code := prog_22_method_2_code, exceptionTable := #[], attributes := #[] }
def k2m0 : Method := { name := "carry", desc := "(B)C", sig := { parameters := [.byte], returnType := some .char }, accessFlags := 8, code := some k2c0 }
def k2c1 : Code := { maxStack := 3, maxLocals := 1, code := prog_22_method_3_code, exceptionTable := #[], attributes := #[] }
def k2m1 : Method := { name := "single", desc := "(B)C", sig := { parameters := [.byte], returnType := some .char }, accessFlags := 8, code := some k2c1 }
def k2c2 : Code := { maxStack := 2, maxLocals := 1, code := prog_22_method_5_code, exceptionTable := #[], attributes := #[] }
def k2m2 : Method := { name := "carried", desc := "(I)I", sig := { parameters := [.int], returnType := some .int }, accessFlags := 8, code := some k2c2 }
/-- com/example/keylint/keylint/Line -/
def k2 : Class := { plain "com/example/keylint/keylint/Line" (some 0) with
  accessFlags := 48
  interfaces := #[]
  cf := some (fileOf pool2 8 #[] #[{ accessFlags := 8, nameIndex := 75, descriptorIndex := 76, attributes := #[] }, { accessFlags := 8, nameIndex := 77, descriptorIndex := 76, attributes := #[] }, { accessFlags := 8, nameIndex := 81, descriptorIndex := 82, attributes := #[] }] 48 2 #[] #[{ accessFlags := 26, nameIndex := 69, descriptorIndex := 70, attributes := #[] }, { accessFlags := 18, nameIndex := 11, descriptorIndex := 12, attributes := #[] }, { accessFlags := 18, nameIndex := 14, descriptorIndex := 25, attributes := #[] }, { accessFlags := 18, nameIndex := 28, descriptorIndex := 12, attributes := #[] }, { accessFlags := 18, nameIndex := 31, descriptorIndex := 32, attributes := #[] }, { accessFlags := 18, nameIndex := 35, descriptorIndex := 12, attributes := #[] }])
  fields := #[{ name := "CARRIED", type := .int, accessFlags := 26, slot := 0, constantValue := 0 }, { name := "number", type := .long, accessFlags := 18, slot := 0, constantValue := 0 }, { name := "text", type := (.object "java/lang/String"), accessFlags := 18, slot := 1, constantValue := 0 }, { name := "length", type := .long, accessFlags := 18, slot := 2, constantValue := 0 }, { name := "whole", type := .boolean, accessFlags := 18, slot := 3, constantValue := 0 }, { name := "undecodedAt", type := .long, accessFlags := 18, slot := 4, constantValue := 0 }]
  methods := #[k2m0, k2m1, k2m2]
  instanceTypes := #[.long, (.object "java/lang/String"), .long, .boolean, .long]
  staticTypes := #[.int]
  resolved := Array.replicate 109 none
  statics := none }

def pool3 : Array CpInfo := pool [(1, u "java/lang/Cloneable"), (0, .class_ 1), (0, u "java/lang/Object"), (0, .class_ 3)] 3

/-- java/lang/Cloneable -/
def k3 : Class := { plain "java/lang/Cloneable" (some 0) with
  accessFlags := 1537
  interfaces := #[]
  cf := some (fileOf pool3 2 #[] #[] 1537 4 #[] #[])
  fields := #[]
  methods := #[]
  instanceTypes := #[]
  staticTypes := #[]
  resolved := Array.replicate 8 none
  statics := none }

def pool4 : Array CpInfo := pool [(1, u "java/io/Serializable"), (0, .class_ 1), (0, u "java/lang/Object"), (0, .class_ 3)] 3

/-- java/io/Serializable -/
def k4 : Class := { plain "java/io/Serializable" (some 0) with
  accessFlags := 1537
  interfaces := #[]
  cf := some (fileOf pool4 2 #[] #[] 1537 4 #[] #[])
  fields := #[]
  methods := #[]
  instanceTypes := #[]
  staticTypes := #[]
  resolved := Array.replicate 8 none
  statics := none }

/-- the primitive byte -/
def k5 : Class := { plain "byte" none with kind := .primitive 'B', accessFlags := 0x411 }
/-- [B -/
def k6 : Class := { plain "[B" (some 0) with kind := .array 5 .byte, interfaces := #[3, 4], accessFlags := 1041 }

/-- the primitive int -/
def k7 : Class := { plain "int" none with kind := .primitive 'I', accessFlags := 0x411 }
/-- [I -/
def k8 : Class := { plain "[I" (some 0) with kind := .array 7 .int, interfaces := #[3, 4], accessFlags := 1041 }

def heap : Heap := #[]
def classes : Array Class := #[k0, k1, k2, k3, k4, k5, k6, k7, k8]
def interned : List (Array UInt16 × Addr) := []
def slotsUsed : Nat := 0
def theMethod : MethodId := ⟨1, 2⟩
def args0 : Array Value := #[.int 5, .int 5]
def aboutOver (below : List Frame) : State where
  vm := { classes := classes, interned := interned.toArray }
  heap := heap
  slotsUsed := slotsUsed
  threads := #[{ frames := .invoking theMethod args0 :: below }]
def below0 : List Frame := [.native { method := ⟨0, 0⟩, args := #[] }]
def about1 : State := aboutOver below0
def p0 : Program := .bare "" "" ""
def e0 : Env := launch0.env 0 0 0
theorem w_frames : about1.frames = Frame.invoking theMethod args0 :: below0 := rfl
set_option maxRecDepth 65536 in
theorem w_args : argsFit about1.vm theMethod args0 = true := by decide +kernel
set_option maxRecDepth 65536 in
theorem w_heap : heapFits about1 = true := by decide +kernel
set_option maxRecDepth 65536 in
theorem w_runnable : about1.curStatus? = some .runnable := by decide +kernel
set_option maxRecDepth 65536 in
theorem w_alone : about1.alone = true := by decide +kernel
set_option maxRecDepth 65536 in
theorem w_named : about1.methodNamed? x = some theMethod := by decide +kernel
set_option maxRecDepth 65536 in
theorem w_hears : about1.hears theMethod below0 = true := by decide +kernel
set_option maxRecDepth 65536 in
theorem w_ripe : about1.ripe theMethod args0 below0 = true := by decide +kernel
theorem w_running : about1.status = .running := rfl
set_option maxRecDepth 65536 in
theorem w_room : about1.hasRoom e0.platform room_1 = true :=
  launch0.hasRoom_least _ room_1 (by decide +kernel) (by decide +kernel) (by decide +kernel) (by decide +kernel) (by decide +kernel) (by decide +kernel)
theorem allAtoms_all (ts : List Jvm.Cond) (a : Array Jvm.Value) (st : Jvm.State) : (allAtoms ts).before a st = ts.all (fun c => c.before a st) := by
  induction ts with
  | nil => rfl
  | cons c t ih =>
    show (Jvm.Cond.and c (allAtoms t)).before a st = _
    rw [Jvm.Cond.before_and, ih, List.all_cons]
def words1 : List Jvm.Cond := Jvm.Cond.code x code maxLocals ret :: tables_1
/-- a 'code' word, met by the world's own term for the bytes: nothing is compared byte by byte -/
theorem code_word {y : MethodName} {bytes : ByteArray} {mx : Nat} {rt : Option FieldType} {a : Array Value} {s : State} {m : MethodId} {meth : Method} {c : Code} (h1 : s.methodNamed? y = some m) (h2 : s.vm.method? m = some meth) (h3 : meth.code = some c) (h4 : c.code = bytes)
    (h5 : (c.maxLocals == mx && c.exceptionTable.isEmpty && decide (c.maxStack ≤ mostOperands) && decide (meth.sig.returnType = rt) && !meth.locks && decide (parseMethodDescriptor y.desc = some meth.sig)) = true) : (Jvm.Cond.code y bytes mx rt).before a s = true := by
  simp only [Bool.and_eq_true, beq_iff_eq, Bool.not_eq_true', decide_eq_true_eq] at h5
  obtain ⟨⟨⟨⟨⟨g1, g2⟩, g3⟩, g4⟩, g5⟩, g6⟩ := h5
  simp [Cond.before, Cond.holds, Cond.value, h1, h2, h3, h4, g1, g2, g3, g4, g5, g6]
def isCode : Jvm.Cond → Bool
  | .code _ _ _ _ => true
  | _ => false
theorem all_split {L : List Jvm.Cond} {P : Jvm.Cond → Bool} (h1 : L.all (fun c => isCode c || P c) = true) (h2 : ∀ c ∈ L.filter isCode, P c = true) : L.all P = true := by
  refine List.all_eq_true.mpr fun c hc => ?_
  have h := List.all_eq_true.mp h1 c hc
  rcases Bool.eq_false_or_eq_true (isCode c) with hi | hi
  · exact h2 c (List.mem_filter.mpr ⟨hc, hi⟩)
  · simpa [hi] using h
set_option maxRecDepth 65536 in
theorem w_c0 : (Jvm.Cond.code x code maxLocals ret).before args0 about1 = true := code_word (m := ⟨1, 2⟩) (meth := k1m2) (c := k1c2) (by decide +kernel) rfl rfl rfl (by decide +kernel)
set_option maxRecDepth 65536 in
theorem w_c1 : (Jvm.Cond.code ({ cls := "com/example/keylint/keylint/Line", name := "single", desc := "(B)C" } : Jvm.MethodName) prog_22_method_3_code (1 : Nat) (Option.some Jvm.ClassFile.FieldType.char)).before args0 about1 = true := code_word (m := ⟨2, 1⟩) (meth := k2m1) (c := k2c1) (by decide +kernel) rfl rfl rfl (by decide +kernel)
set_option maxRecDepth 65536 in
theorem w_c2 : (Jvm.Cond.code ({ cls := "com/example/keylint/keylint/Line", name := "carried", desc := "(I)I" } : Jvm.MethodName) prog_22_method_5_code (1 : Nat) (Option.some Jvm.ClassFile.FieldType.int)).before args0 about1 = true := code_word (m := ⟨2, 2⟩) (meth := k2m2) (c := k2c2) (by decide +kernel) rfl rfl rfl (by decide +kernel)
set_option maxRecDepth 65536 in
theorem w_c3 : (Jvm.Cond.code ({ cls := "com/example/keylint/keylint/LineCarriedPinLaw", name := "check", desc := "(I)Z" } : Jvm.MethodName) method_2_code (3 : Nat) (Option.some Jvm.ClassFile.FieldType.boolean)).before args0 about1 = true := code_word (m := ⟨1, 1⟩) (meth := k1m1) (c := k1c1) (by decide +kernel) rfl rfl rfl (by decide +kernel)
set_option maxRecDepth 65536 in
theorem w_c4 : (Jvm.Cond.code ({ cls := "com/example/keylint/keylint/Line", name := "carry", desc := "(B)C" } : Jvm.MethodName) prog_22_method_2_code (1 : Nat) (Option.some Jvm.ClassFile.FieldType.char)).before args0 about1 = true := code_word (m := ⟨2, 0⟩) (meth := k2m0) (c := k2c0) (by decide +kernel) rfl rfl rfl (by decide +kernel)
def codes1 : List Jvm.Cond := [Jvm.Cond.code x code maxLocals ret, Jvm.Cond.code ({ cls := "com/example/keylint/keylint/Line", name := "single", desc := "(B)C" } : Jvm.MethodName) prog_22_method_3_code (1 : Nat) (Option.some Jvm.ClassFile.FieldType.char), Jvm.Cond.code ({ cls := "com/example/keylint/keylint/Line", name := "carried", desc := "(I)I" } : Jvm.MethodName) prog_22_method_5_code (1 : Nat) (Option.some Jvm.ClassFile.FieldType.int), Jvm.Cond.code ({ cls := "com/example/keylint/keylint/LineCarriedPinLaw", name := "check", desc := "(I)Z" } : Jvm.MethodName) method_2_code (3 : Nat) (Option.some Jvm.ClassFile.FieldType.boolean), Jvm.Cond.code ({ cls := "com/example/keylint/keylint/Line", name := "carry", desc := "(B)C" } : Jvm.MethodName) prog_22_method_2_code (1 : Nat) (Option.some Jvm.ClassFile.FieldType.char)]
set_option maxRecDepth 65536 in
theorem codes_eq : words1.filter isCode = codes1 := rfl
theorem w_codes : ∀ c ∈ words1.filter isCode, c.before args0 about1 = true := by
  rw [codes_eq]
  intro c hc
  simp only [codes1, List.mem_cons, List.not_mem_nil, or_false] at hc
  rcases hc with rfl | rfl | rfl | rfl | rfl
  · exact w_c0
  · exact w_c1
  · exact w_c2
  · exact w_c3
  · exact w_c4
set_option maxRecDepth 65536 in
theorem w_t1 : words1.all (fun c => isCode c || c.before args0 about1) = true := by decide +kernel
theorem w_tables : (allAtoms (Jvm.Cond.code x code maxLocals ret :: tables_1)).before args0 about1 = true := by
  rw [allAtoms_all]
  show words1.all (fun c => c.before args0 about1) = true
  refine all_split ?_ w_codes
  rw [w_t1]
set_option maxRecDepth 65536 in
theorem w_case : (Jvm.Cond.and given_1 narrow_1).before args0 about1 = true := by decide +kernel
theorem w_applies : (headSpec (Jvm.Cond.code x code maxLocals ret :: tables_1) room_1).applies x e0.platform about1 = true :=
  (Spec.applies_iff w_frames).mpr ⟨w_running, w_runnable, w_alone, w_named, w_hears, w_ripe, w_room, w_tables⟩
theorem atStart : AtStart classFile x code maxLocals ret World_1 tables_1 room_1 Calls_1 rest_1 Pre_1 launch0 p0 e0 about1 theMethod args0 below0 :=
  ⟨lists_1, trivial, launch0.admits_env _ _ _, launch0.least_env, fairChoices_fair.cas, fairChoices_fair.clock, w_frames, w_args, w_heap, w_applies, trivial, trivial, w_case⟩
end start1
theorem witness_1 : WitnessClaimed_1 := ⟨start1.p0, start1.e0, start1.about1, start1.theMethod, start1.args0, start1.below0, start1.atStart⟩
end Jvm.Pilot.@@N@@
