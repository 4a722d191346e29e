import JvmDerived
import JvmDerived.Pilot.@@N@@Statement
import JvmDerived.Pilot.@@N@@Code
set_option linter.unusedVariables false
set_option linter.unusedSimpArgs false

namespace Jvm.RoadKit
open Sem ClassFile Op Lib Jvm.Stand Jvm.Free Jvm.LawKit
section New
variable {p : Program} {l : Launch} {e : Env} {R : Room} {s : State} {m : MethodId} {args : Array Value} {below : List Frame} {meth : Method} {c : Code} {T : State} {locs : List Loc} {cells slots : Nat}
theorem retI (X : Stand p l e R s m args below meth c T locs cells slots) (hx : p.tables.exec = Jvm.exec) {pc : Nat} {Ls : Array Slot} {z : Int32} {rest : List Value} (hret : meth.sig.returnType = some .int) (hd : decode c.code pc = .ok (.ireturn, 1)) {fs : List Frame}
    (hl : ∀ (f : JFrame) (acts : List Action), f.method = m → f.locked = none → f.entered = [] → (doReturn e (T.setTop f) acts (some (.int z))).1 = T.setFrames fs) : Steps p.tables e below (T.setTop (mkF m pc Ls (.int z :: rest))) (T.setFrames fs) := by
  have hm' : T.vm.method? m = some meth := X.method'
  have hn : narrow .int (.int z) = .int z := rfl
  show Steps p.tables e below (T.setTop { method := m, pc := pc, locals := Ls, stack := _ :: rest, locked := none }) _
  jvm_step X.here [X.here.top, hx, hd, hm', hret, hn]
  first | (intro acts; rw [hl _ acts rfl rfl rfl]) | rw [hl _ _ rfl rfl rfl]
  exact Steps.refl _
end New
end Jvm.RoadKit
namespace Jvm.Pilot.@@N@@
open Jvm Jvm.ClassFile Sem Op Lib Jvm.Free Jvm.Stand Jvm.LawKit Jvm.RoadKit Bundle Jvm.Pilot.@@N@@.Jvm.D
abbrev c_0 : String := "com/example/larder/larder/Node"
abbrev y_0 : MethodName := ⟨"com/example/larder/larder/Node", "<init>", "(Ljava/lang/Object;Ljava/lang/Object;)V"⟩
abbrev y_1 : MethodName := ⟨"com/example/larder/larder/Node", "setWeight", "(I)V"⟩
abbrev y_2 : MethodName := ⟨"com/example/larder/larder/Node", "setHot", "(Z)V"⟩
abbrev y_3 : MethodName := ⟨"com/example/larder/larder/Node", "weight", "()I"⟩
abbrev y_4 : MethodName := ⟨"com/example/larder/larder/Node", "isHot", "()Z"⟩
abbrev own_zl (n : Nat) : List Value := List.replicate n (.long (0 : Int64))
abbrev own_zi (n : Nat) : List Value := List.replicate n (.int (0 : Int32))
abbrev own_zr (n : Nat) : List Value := List.replicate n .null
abbrev vi (x : Int32) : Slot := .val (.int x)
abbrev vj (x : Int64) : Slot := .val (.long x)
abbrev vr (x : Addr) : Slot := .val (.ref x)
section Steps
variable {p : Program} {l : Launch} {e : Env} {R : Room} {s : State} {m : MethodId} {args : Array Value} {below : List Frame} {meth : Method} {c : Code} {T : State} {locs : List Loc} {cells slots : Nat} {pc pc' : Nat} {Ls L' : Array Slot} {S : List Value} {t : State} {Z : State} {h : Heap} {a : Addr} {cl : Cell}
abbrev Go (p : Program) (e : Env) (below : List Frame) (T0 : State) (g0 : JFrame) (T : State) (g : JFrame) : Prop := ∀ t, Steps p.tables e below (T.setTop g) t → Steps p.tables e below (T0.setTop g0) t
theorem own_w {Z : State} {a0 : Array Value} (hw : ∀ d ∈ tables_1, d.before a0 Z = true) (k : Nat) {d : Jvm.Cond} (h : tables_1[k]? = some d) : d.before a0 Z = true := hw _ (List.mem_of_getElem? h)
theorem o_iloadN (X : Stand p l e R s m args below meth c T locs cells slots) (hx : p.tables.exec = Jvm.exec) {i : Fin 4} {v : Int32} (hd : decode c.code pc = .ok (.iload_n i, 1)) (hl : Ls[i.val]? = some (.val (.int v))) (k : Steps p.tables e below (T.setTop (mkF m (pc + 1) Ls (.int v :: S))) t) : Steps p.tables e below (T.setTop (mkF m pc Ls (S))) t := XS.iloadN X.here hx rfl hd hl k
theorem o_iload (X : Stand p l e R s m args below meth c T locs cells slots) (hx : p.tables.exec = Jvm.exec) {i : Nat} {v : Int32} (hd : decode c.code pc = .ok (.iload i, 2)) (hl : Ls[i]? = some (.val (.int v))) (k : Steps p.tables e below (T.setTop (mkF m (pc + 2) Ls (.int v :: S))) t) : Steps p.tables e below (T.setTop (mkF m pc Ls (S))) t := XS.iload X.here hx rfl hd hl k
theorem o_aloadN (X : Stand p l e R s m args below meth c T locs cells slots) (hx : p.tables.exec = Jvm.exec) {i : Fin 4} {v : Value} (hd : decode c.code pc = .ok (.aload_n i, 1)) (hl : Ls[i.val]? = some (.val v)) (hv : v.isRef = true) (k : Steps p.tables e below (T.setTop (mkF m (pc + 1) Ls (v :: S))) t) : Steps p.tables e below (T.setTop (mkF m pc Ls (S))) t := XS.aloadN X.here hx rfl hd hl hv k
theorem o_aload (X : Stand p l e R s m args below meth c T locs cells slots) (hx : p.tables.exec = Jvm.exec) {i : Nat} {v : Value} (hd : decode c.code pc = .ok (.aload i, 2)) (hl : Ls[i]? = some (.val v)) (hv : v.isRef = true) (k : Steps p.tables e below (T.setTop (mkF m (pc + 2) Ls (v :: S))) t) : Steps p.tables e below (T.setTop (mkF m pc Ls (S))) t := XS.aload X.here hx rfl hd hl hv k
theorem o_istoreN (X : Stand p l e R s m args below meth c T locs cells slots) (hx : p.tables.exec = Jvm.exec) {i : Fin 4} {v : Int32} (hd : decode c.code pc = .ok (.istore_n i, 1)) (hl : storeLocals Ls i.val (.int v) = some L') (k : Steps p.tables e below (T.setTop (mkF m (pc + 1) L' (S))) t) : Steps p.tables e below (T.setTop (mkF m pc Ls (.int v :: S))) t := XS.istoreN X.here hx rfl hd rfl hl k
theorem o_istore (X : Stand p l e R s m args below meth c T locs cells slots) (hx : p.tables.exec = Jvm.exec) {i : Nat} {v : Int32} (hd : decode c.code pc = .ok (.istore i, 2)) (hl : storeLocals Ls i (.int v) = some L') (k : Steps p.tables e below (T.setTop (mkF m (pc + 2) L' (S))) t) : Steps p.tables e below (T.setTop (mkF m pc Ls (.int v :: S))) t := XS.istore X.here hx rfl hd rfl hl k
theorem o_astore (X : Stand p l e R s m args below meth c T locs cells slots) (hx : p.tables.exec = Jvm.exec) {i : Nat} {v : Value} (hd : decode c.code pc = .ok (.astore i, 2)) (hv : v.isRef = true) (hl : storeLocals Ls i v = some L') (k : Steps p.tables e below (T.setTop (mkF m (pc + 2) L' (S))) t) : Steps p.tables e below (T.setTop (mkF m pc Ls (v :: S))) t := XS.astore X.here hx rfl hd rfl hv hl k
theorem o_iconst (X : Stand p l e R s m args below meth c T locs cells slots) (hx : p.tables.exec = Jvm.exec) {i : Int} {v : Int32} (hd : decode c.code pc = .ok (.iconst i, 1)) (hv : v = Int32.ofInt i) (k : Steps p.tables e below (T.setTop (mkF m (pc + 1) Ls (.int v :: S))) t) : Steps p.tables e below (T.setTop (mkF m pc Ls (S))) t := XS.iconst X.here hx rfl hd (hv ▸ k)
theorem o_null (X : Stand p l e R s m args below meth c T locs cells slots) (hx : p.tables.exec = Jvm.exec)  (hd : decode c.code pc = .ok (.aconst_null, 1))  (k : Steps p.tables e below (T.setTop (mkF m (pc + 1) Ls (.null :: S))) t) : Steps p.tables e below (T.setTop (mkF m pc Ls (S))) t := XS.aconstNull X.here hx rfl hd k
theorem o_ldc (X : Stand p l e R s m args below meth c T locs cells slots) (hx : p.tables.exec = Jvm.exec) {own : String} {i : Nat} {v : Int32} (ho : s.vm.findClass own = some m.cls) (w : (Cond.constant own i v).before args s = true) (hd : decode c.code pc = .ok (.ldc i, 2))  (k : Steps p.tables e below (T.setTop (mkF m (pc + 2) Ls (.int v :: S))) t) : Steps p.tables e below (T.setTop (mkF m pc Ls (S))) t := X.ldcInt hx ho w (g := mkF m pc Ls S) rfl hd _ k
theorem o_iand (X : Stand p l e R s m args below meth c T locs cells slots) (hx : p.tables.exec = Jvm.exec) {x y : Int32} (hd : decode c.code pc = .ok (.iand, 1))  (k : Steps p.tables e below (T.setTop (mkF m (pc + 1) Ls (.int (x &&& y) :: S))) t) : Steps p.tables e below (T.setTop (mkF m pc Ls (.int y :: .int x :: S))) t := XS.iand X.here hx rfl hd rfl k
theorem o_ior (X : Stand p l e R s m args below meth c T locs cells slots) (hx : p.tables.exec = Jvm.exec) {x y : Int32} (hd : decode c.code pc = .ok (.ior, 1))  (k : Steps p.tables e below (T.setTop (mkF m (pc + 1) Ls (.int (x ||| y) :: S))) t) : Steps p.tables e below (T.setTop (mkF m pc Ls (.int y :: .int x :: S))) t := XS.ior X.here hx rfl hd rfl k
theorem o_dup (X : Stand p l e R s m args below meth c T locs cells slots) (hx : p.tables.exec = Jvm.exec) {x : Value} (hd : decode c.code pc = .ok (.dup, 1)) (hc : x.category = 1) (k : Steps p.tables e below (T.setTop (mkF m (pc + 1) Ls (x :: x :: S))) t) : Steps p.tables e below (T.setTop (mkF m pc Ls (x :: S))) t := XS.dup X.here hx rfl hd rfl hc k
theorem o_goto (X : Stand p l e R s m args below meth c T locs cells slots) (hx : p.tables.exec = Jvm.exec) {o : Int} (hd : decode c.code pc = .ok (.goto o, 3)) (hp : ((pc : Int) + o).toNat = pc') (ho : 0 ≤ (pc : Int) + o) (k : Steps p.tables e below (T.setTop (mkF m (pc') Ls (S))) t) : Steps p.tables e below (T.setTop (mkF m pc Ls (S))) t := XS.goto X.here hx rfl rfl hd ho hp k
theorem o_ifYes (X : Stand p l e R s m args below meth c T locs cells slots) (hx : p.tables.exec = Jvm.exec) {cd : ClassFile.Cond} {x : Int32} {o : Int} (hd : decode c.code pc = .ok (.ifCond cd o, 3)) (hp : ((pc : Int) + o).toNat = pc') (ho : 0 ≤ (pc : Int) + o) (hc : ifCond.holds cd x = true) (k : Steps p.tables e below (T.setTop (mkF m (pc') Ls (S))) t) : Steps p.tables e below (T.setTop (mkF m pc Ls (.int x :: S))) t := XS.ifYes X.here hx rfl rfl hd rfl hc ho hp k
theorem o_ifNo (X : Stand p l e R s m args below meth c T locs cells slots) (hx : p.tables.exec = Jvm.exec) {cd : ClassFile.Cond} {x : Int32} {o : Int} (hd : decode c.code pc = .ok (.ifCond cd o, 3)) (hc : ifCond.holds cd x = false) (k : Steps p.tables e below (T.setTop (mkF m (pc + 3) Ls (S))) t) : Steps p.tables e below (T.setTop (mkF m pc Ls (.int x :: S))) t := XS.ifNo X.here hx rfl hd rfl hc k
theorem o_icmpNo (X : Stand p l e R s m args below meth c T locs cells slots) (hx : p.tables.exec = Jvm.exec) {cd : ClassFile.Cond} {x y : Int32} {o : Int} (hd : decode c.code pc = .ok (.if_icmp cd o, 3)) (hc : if_icmp.holds cd x y = false) (k : Steps p.tables e below (T.setTop (mkF m (pc + 3) Ls (S))) t) : Steps p.tables e below (T.setTop (mkF m pc Ls (.int y :: .int x :: S))) t := XS.icmpNo X.here hx rfl hd rfl hc k
end Steps
theorem d1_0 : decode prog_18_method_1_code 0 = .ok (.aload_n 0, 1) := by decide +kernel
theorem d1_1 : decode prog_18_method_1_code 1 = .ok (.invokespecial 1, 3) := by decide +kernel
theorem d1_4 : decode prog_18_method_1_code 4 = .ok (.aload_n 0, 1) := by decide +kernel
theorem d1_5 : decode prog_18_method_1_code 5 = .ok (.aload_n 1, 1) := by decide +kernel
theorem d1_6 : decode prog_18_method_1_code 6 = .ok (.putfield 7, 3) := by decide +kernel
theorem d1_9 : decode prog_18_method_1_code 9 = .ok (.aload_n 0, 1) := by decide +kernel
theorem d1_10 : decode prog_18_method_1_code 10 = .ok (.aload_n 2, 1) := by decide +kernel
theorem d1_11 : decode prog_18_method_1_code 11 = .ok (.putfield 13, 3) := by decide +kernel
theorem d1_14 : decode prog_18_method_1_code 14 = .ok (.return_, 1) := by decide +kernel
theorem pn_1 : plainName "com/example/larder/larder/Node" = true := by first | (simp [plainName, overriddenIn]; done) | decide +kernel
theorem ef_1 (m : MethodId) (x0 : Addr) : entryFrame m #[(.ref x0), .null, .null] 3 = mkF m 0 #[vr x0, .val .null, .val .null] [] := by first | (simp [entryFrame, mkF, argsToLocals, Value.category]; done) | rfl
def Q1 (Z : State) (a1 : Addr) (h0 : Heap) (n0 : Nat) (v : Option Value) (h : Heap) (L : List Loc) : Prop := v = none ∧ Fr n0 L ∧ Keep h0 h [a1] ∧ Exa Z h a1 c_0 ∧ Fld Z h a1 c_0 "weightAndHot" "I" (.int (0 : Int32))
set_option maxRecDepth 65536 in
set_option maxHeartbeats 40000000 in
theorem rm1 (l : Launch) (Z : State) (a0 : Array Value) (hw : ∀ d ∈ tables_1, d.before a0 Z = true) (ws : List Jvm.Cond) (a1 : Addr) (h0 : Heap) (n0 : Nat) (Z0 : n0 ≤ h0.size) (E0 : Exa Z h0 a1 c_0) (Fk : Fld Z h0 a1 c_0 "key" "Ljava/lang/Object;" .null) (Fv : Fld Z h0 a1 c_0 "value" "Ljava/lang/Object;" .null) (Fw : Fld Z h0 a1 c_0 "weightAndHot" "I" (.int (0 : Int32))) (g1 : n0 ≤ a1) :
    MetFree l y_0 (head1 (Jvm.Cond.code y_0 prog_18_method_1_code 3 none :: ws) ({ frames := 1, cells := 0, slots := 0, locals := 12 } : Room)) (fun a U => a = #[(.ref a1), .null, .null] ∧ Z.Warmed39 U.vm ∧ U.heap = h0) (fun _ _ _ _ _ => True) (fun _ U o U' => ∃ v L, o = .returned v ∧ Q1 Z a1 h0 n0 v U'.heap L ∧ FrameEnd U o U' L ({ frames := 1, cells := 0, slots := 0, locals := 12 } : Room).cells ({ frames := 1, cells := 0, slots := 0, locals := 12 } : Room).slots) := by
  refine MetFree.of_bodySF (plainFor_of_name pn_1) hisR ?_
  intro p e s m args below meth c s₁ Bd hml0 hP hK
  obtain ⟨rfl, hZ, hh⟩ := hP
  have hx := Bd.exec
  have hby := Bd.bytes
  have hml : c.maxLocals = 3 := hml0
  have hown : s.vm.findClass "com/example/larder/larder/Node" = some m.cls := findClass_of_methodNamed Bd.named
  have hnm := (name_of_methodNamed Bd.named Bd.method).1
  have X0 : Stand p l e ({ frames := 1, cells := 0, slots := 0, locals := 12 } : Room) s m #[(.ref a1), .null, .null] below meth c s₁ [] 0 0 := Stand.of_body Bd
  have e0 : s₁.heap = h0 := by rw [← hh, Bd.state]; rfl
  have N0 := Fr.nil n0
  have K0 : Keep h0 h0 [a1] := Keep.refl h0 [a1]
  obtain ⟨F0, hF0⟩ : ∃ F : JFrame, F = entryFrame m #[(.ref a1), .null, .null] 3 := ⟨_, rfl⟩
  have pre0 : ∀ t, Steps p.tables e below (s₁.setTop F0) t → Steps p.tables e below (s₁.setTop (entryFrame m #[(.ref a1), .null, .null] 3)) t := fun t k => hF0 ▸ k
  have go0 : Go p e below s₁ F0 s₁ (mkF m 0 #[vr a1, .val .null, .val .null] []) := fun t k => castTop (hF0.trans (ef_1 m a1)) k
  have go1 : Go p e below s₁ F0 s₁ (mkF m 1 #[vr a1, .val .null, .val .null] [(.ref a1)]) := by
    intro t kt
    refine go0 t ?_
    refine o_aloadN X0 hx (hb hby d1_0) rfl rfl ?_
    exact kt
  obtain ⟨T2, X2, e2, st2⟩ := initO X0 hx hZ hown (own_w hw 7 rfl) (own_w hw 8 rfl) (own_w hw 9 rfl) e0 (g := (mkF m 1 #[vr a1, .val .null, .val .null] [(.ref a1)])) rfl (by rw [hml]; rfl) rfl (hb hby d1_1) (by decide) (W := 0) (by show 2 * 0 + _ ≤ _; exact Nat.le_of_eq rfl) (by decide)
  have go3 : Go p e below s₁ F0 T2 (mkF m 4 #[vr a1, .val .null, .val .null] []) := fun t k => go1 t (st2 t k)
  have go4 : Go p e below s₁ F0 T2 (mkF m 6 #[vr a1, .val .null, .val .null] [.null, (.ref a1)]) := by
    intro t kt
    refine go3 t ?_
    refine o_aloadN X2 hx (hb hby d1_4) rfl rfl ?_
    refine o_aloadN X2 hx (hb hby d1_5) rfl rfl ?_
    exact kt
  obtain ⟨T5, h5, X5, e5, W5, st5⟩ := putF X2 hx hZ hown (host := "") (Or.inl (own_w hw 10 rfl)) Via.refl e2 Fk E0 (Or.inr ⟨(own_w hw 11 rfl), rfl, hnm⟩) (own_w hw 2 rfl) (ty := (.object "java/lang/Object")) (by decide) rfl rfl (g := (mkF m 6 #[vr a1, .val .null, .val .null] [.null, (.ref a1)])) rfl rfl (hb hby d1_6)
  have Fw5 : Fld Z h5 a1 c_0 "key" "Ljava/lang/Object;" .null := Fld.same W5 Fk
  have K6 : Keep h0 h5 [a1] := K0.wr W5 (Or.inl (List.mem_of_getElem? (i := 0) rfl))
  have Z6 : n0 ≤ h5.size := Nat.le_trans Z0 (Keep.of_wr W5).1
  have N5 := Fr.snoc X5 N0 g1
  have go7 : Go p e below s₁ F0 T5 (mkF m 9 #[vr a1, .val .null, .val .null] []) := fun t k => go4 t (st5 t k)
  have F8 : Exa Z h5 a1 c_0 := (E0.wr W5)
  have F9 : Fld Z h5 a1 c_0 "value" "Ljava/lang/Object;" .null := (Fv.other W5 (Or.inr (slot_ne (Or.inl (own_w hw 13 rfl)) (Or.inr (own_w hw 11 rfl)) (by decide) (t := (.object "java/lang/Object")) (t' := (.object "java/lang/Object")) (by decide) (by decide))))
  have go10 : Go p e below s₁ F0 T5 (mkF m 11 #[vr a1, .val .null, .val .null] [.null, (.ref a1)]) := by
    intro t kt
    refine go7 t ?_
    refine o_aloadN X5 hx (hb hby d1_9) rfl rfl ?_
    refine o_aloadN X5 hx (hb hby d1_10) rfl rfl ?_
    exact kt
  obtain ⟨T11, h11, X11, e11, W11, st11⟩ := putF X5 hx hZ hown (host := "") (Or.inl (own_w hw 12 rfl)) Via.refl e5 F9 F8 (Or.inl (own_w hw 13 rfl)) (own_w hw 2 rfl) (ty := (.object "java/lang/Object")) (by decide) rfl rfl (g := (mkF m 11 #[vr a1, .val .null, .val .null] [.null, (.ref a1)])) rfl rfl (hb hby d1_11)
  have Fw11 : Fld Z h11 a1 c_0 "value" "Ljava/lang/Object;" .null := Fld.same W11 F9
  have K12 : Keep h0 h11 [a1] := K6.wr W11 (Or.inl (List.mem_of_getElem? (i := 0) rfl))
  have Z12 : n0 ≤ h11.size := Nat.le_trans Z6 (Keep.of_wr W11).1
  have N11 := Fr.snoc X11 N5 g1
  have go13 : Go p e below s₁ F0 T11 (mkF m 14 #[vr a1, .val .null, .val .null] []) := fun t k => go10 t (st11 t k)
  obtain ⟨fs, hr, hrun, hended, hW, hsame⟩ := X11.leave (v := none) (fun _ => rfl)
  refine ⟨_, _, pre0 _ (go13 _ ?_), hrun, hended, _, _, rfl, ?_, ⟨_, rfl⟩, hW, hsame.mono (by decide) (by decide)⟩
  · skip
    exact X11.returnOut hx Bd.returns (hb hby d1_14) hr
  · show Q1 Z a1 h0 n0 _ T11.heap _
    rw [e11]
    have F14 : Exa Z h11 a1 c_0 := (F8.wr W11)
    have F15 : Fld Z h11 a1 c_0 "weightAndHot" "I" (.int (0 : Int32)) := ((Fw.other W5 (Or.inr (slot_ne (Or.inl (own_w hw 20 rfl)) (Or.inr (own_w hw 11 rfl)) (by decide) (t := .int) (t' := (.object "java/lang/Object")) (by decide) (by decide)))).other W11 (Or.inr (slot_ne (Or.inl (own_w hw 20 rfl)) (Or.inl (own_w hw 13 rfl)) (by decide) (t := .int) (t' := (.object "java/lang/Object")) (by decide) (by decide))))
    exact ⟨rfl, N11, K12, F14, F15⟩

theorem d3_0 : decode prog_18_method_3_code 0 = .ok (.aload_n 0, 1) := by decide +kernel
theorem d3_1 : decode prog_18_method_3_code 1 = .ok (.aload_n 0, 1) := by decide +kernel
theorem d3_2 : decode prog_18_method_3_code 2 = .ok (.getfield 16, 3) := by decide +kernel
theorem d3_5 : decode prog_18_method_3_code 5 = .ok (.ldc 23, 2) := by decide +kernel
theorem d3_7 : decode prog_18_method_3_code 7 = .ok (.iand, 1) := by decide +kernel
theorem d3_8 : decode prog_18_method_3_code 8 = .ok (.iload_n 1, 1) := by decide +kernel
theorem d3_9 : decode prog_18_method_3_code 9 = .ok (.ior, 1) := by decide +kernel
theorem d3_10 : decode prog_18_method_3_code 10 = .ok (.putfield 16, 3) := by decide +kernel
theorem d3_13 : decode prog_18_method_3_code 13 = .ok (.return_, 1) := by decide +kernel
theorem pn_3 : plainName "com/example/larder/larder/Node" = true := by first | (simp [plainName, overriddenIn]; done) | decide +kernel
theorem ef_3 (m : MethodId) (x0 : Addr) (x1 : Int32) : entryFrame m #[(.ref x0), (.int x1)] 2 = mkF m 0 #[vr x0, vi x1] [] := by first | (simp [entryFrame, mkF, argsToLocals, Value.category]; done) | rfl
def Q3 (Z : State) (a1 : Addr) (p2 : Int32) (w : Int32) (h0 : Heap) (n0 : Nat) (v : Option Value) (h : Heap) (L : List Loc) : Prop := v = none ∧ Fr n0 L ∧ Keep h0 h [a1] ∧ Fld Z h a1 c_0 "weightAndHot" "I" (.int ((w &&& (-2147483648 : Int32)) ||| p2))
set_option maxRecDepth 65536 in
set_option maxHeartbeats 40000000 in
theorem rm3 (l : Launch) (Z : State) (a0 : Array Value) (hw : ∀ d ∈ tables_1, d.before a0 Z = true) (ws : List Jvm.Cond) (a1 : Addr) (p2 : Int32) (w : Int32) (h0 : Heap) (n0 : Nat) (Z0 : n0 ≤ h0.size) (E0 : Exa Z h0 a1 c_0) (Fw : Fld Z h0 a1 c_0 "weightAndHot" "I" (.int w)) (g1 : n0 ≤ a1) :
    MetFree l y_1 (head1 (Jvm.Cond.code y_1 prog_18_method_3_code 2 none :: ws) ({ frames := 0, cells := 0, slots := 0, locals := 0 } : Room)) (fun a U => a = #[(.ref a1), (.int p2)] ∧ Z.Warmed39 U.vm ∧ U.heap = h0) (fun _ _ _ _ _ => True) (fun _ U o U' => ∃ v L, o = .returned v ∧ Q3 Z a1 p2 w h0 n0 v U'.heap L ∧ FrameEnd U o U' L ({ frames := 0, cells := 0, slots := 0, locals := 0 } : Room).cells ({ frames := 0, cells := 0, slots := 0, locals := 0 } : Room).slots) := by
  refine MetFree.of_bodySF (plainFor_of_name pn_3) hisR ?_
  intro p e s m args below meth c s₁ Bd hml0 hP hK
  obtain ⟨rfl, hZ, hh⟩ := hP
  have hx := Bd.exec
  have hby := Bd.bytes
  have hml : c.maxLocals = 2 := hml0
  have hown : s.vm.findClass "com/example/larder/larder/Node" = some m.cls := findClass_of_methodNamed Bd.named
  have hnm := (name_of_methodNamed Bd.named Bd.method).1
  have X0 : Stand p l e ({ frames := 0, cells := 0, slots := 0, locals := 0 } : Room) s m #[(.ref a1), (.int p2)] below meth c s₁ [] 0 0 := Stand.of_body Bd
  have e0 : s₁.heap = h0 := by rw [← hh, Bd.state]; rfl
  have N0 := Fr.nil n0
  have K0 : Keep h0 h0 [a1] := Keep.refl h0 [a1]
  obtain ⟨F0, hF0⟩ : ∃ F : JFrame, F = entryFrame m #[(.ref a1), (.int p2)] 2 := ⟨_, rfl⟩
  have pre0 : ∀ t, Steps p.tables e below (s₁.setTop F0) t → Steps p.tables e below (s₁.setTop (entryFrame m #[(.ref a1), (.int p2)] 2)) t := fun t k => hF0 ▸ k
  have go0 : Go p e below s₁ F0 s₁ (mkF m 0 #[vr a1, vi p2] []) := fun t k => castTop (hF0.trans (ef_3 m a1 p2)) k
  have go1 : Go p e below s₁ F0 s₁ (mkF m 2 #[vr a1, vi p2] [(.ref a1), (.ref a1)]) := by
    intro t kt
    refine go0 t ?_
    refine o_aloadN X0 hx (hb hby d3_0) rfl rfl ?_
    refine o_aloadN X0 hx (hb hby d3_1) rfl rfl ?_
    exact kt
  obtain ⟨T2, X2, e2, st2⟩ := getF X0 hx hZ hown (host := "") (Or.inl (own_w hw 19 rfl)) Via.refl e0 Fw (g := (mkF m 2 #[vr a1, vi p2] [(.ref a1), (.ref a1)])) rfl rfl (hb hby d3_2)
  have go3 : Go p e below s₁ F0 T2 (mkF m 5 #[vr a1, vi p2] [(.int w), (.ref a1)]) := fun t k => go1 t (st2 t k)
  have go4 : Go p e below s₁ F0 T2 (mkF m 10 #[vr a1, vi p2] [(.int ((w &&& (-2147483648 : Int32)) ||| p2)), (.ref a1)]) := by
    intro t kt
    refine go3 t ?_
    refine o_ldc X2 hx hown (mvT hZ (own_w hw 21 rfl)) (hb hby d3_5) ?_
    refine o_iand X2 hx (hb hby d3_7) ?_
    refine o_iloadN X2 hx (hb hby d3_8) rfl ?_
    refine o_ior X2 hx (hb hby d3_9) ?_
    exact kt
  obtain ⟨T5, h5, X5, e5, W5, st5⟩ := putF X2 hx hZ hown (host := "") (Or.inl (own_w hw 19 rfl)) Via.refl e2 Fw E0 (Or.inl (own_w hw 20 rfl)) (own_w hw 2 rfl) (ty := .int) (by decide) rfl rfl (g := (mkF m 10 #[vr a1, vi p2] [(.int ((w &&& (-2147483648 : Int32)) ||| p2)), (.ref a1)])) rfl rfl (hb hby d3_10)
  have Fw5 : Fld Z h5 a1 c_0 "weightAndHot" "I" (.int ((w &&& (-2147483648 : Int32)) ||| p2)) := Fld.same W5 Fw
  have K6 : Keep h0 h5 [a1] := K0.wr W5 (Or.inl (List.mem_of_getElem? (i := 0) rfl))
  have Z6 : n0 ≤ h5.size := Nat.le_trans Z0 (Keep.of_wr W5).1
  have N5 := Fr.snoc X5 N0 g1
  have go7 : Go p e below s₁ F0 T5 (mkF m 13 #[vr a1, vi p2] []) := fun t k => go4 t (st5 t k)
  obtain ⟨fs, hr, hrun, hended, hW, hsame⟩ := X5.leave (v := none) (fun _ => rfl)
  refine ⟨_, _, pre0 _ (go7 _ ?_), hrun, hended, _, _, rfl, ?_, ⟨_, rfl⟩, hW, hsame.mono (by decide) (by decide)⟩
  · skip
    exact X5.returnOut hx Bd.returns (hb hby d3_13) hr
  · show Q3 Z a1 p2 w h0 n0 _ T5.heap _
    rw [e5]
    exact ⟨rfl, N5, K6, Fw5⟩

theorem d4_0 : decode prog_18_method_5_code 0 = .ok (.aload_n 0, 1) := by decide +kernel
theorem d4_1 : decode prog_18_method_5_code 1 = .ok (.iload_n 1, 1) := by decide +kernel
theorem d4_2 : decode prog_18_method_5_code 2 = .ok (.ifCond .eq 13, 3) := by decide +kernel
theorem d4_15 : decode prog_18_method_5_code 15 = .ok (.aload_n 0, 1) := by decide +kernel
theorem d4_16 : decode prog_18_method_5_code 16 = .ok (.getfield 16, 3) := by decide +kernel
theorem d4_19 : decode prog_18_method_5_code 19 = .ok (.ldc 22, 2) := by decide +kernel
theorem d4_21 : decode prog_18_method_5_code 21 = .ok (.iand, 1) := by decide +kernel
theorem d4_22 : decode prog_18_method_5_code 22 = .ok (.putfield 16, 3) := by decide +kernel
theorem d4_25 : decode prog_18_method_5_code 25 = .ok (.return_, 1) := by decide +kernel
theorem pn_4_0 : plainName "com/example/larder/larder/Node" = true := by first | (simp [plainName, overriddenIn]; done) | decide +kernel
theorem ef_4_0 (m : MethodId) (x0 : Addr) : entryFrame m #[(.ref x0), (.int (0 : Int32))] 2 = mkF m 0 #[vr x0, vi (0 : Int32)] [] := by first | (simp [entryFrame, mkF, argsToLocals, Value.category]; done) | rfl
def Q4_0 (Z : State) (a1 : Addr) (w : Int32) (h0 : Heap) (n0 : Nat) (v : Option Value) (h : Heap) (L : List Loc) : Prop := v = none ∧ Fr n0 L ∧ Keep h0 h [a1] ∧ Fld Z h a1 c_0 "weightAndHot" "I" (.int (w &&& (2147483647 : Int32)))
set_option maxRecDepth 65536 in
set_option maxHeartbeats 40000000 in
theorem rm4_0 (l : Launch) (Z : State) (a0 : Array Value) (hw : ∀ d ∈ tables_1, d.before a0 Z = true) (ws : List Jvm.Cond) (a1 : Addr) (w : Int32) (h0 : Heap) (n0 : Nat) (Z0 : n0 ≤ h0.size) (E0 : Exa Z h0 a1 c_0) (Fw : Fld Z h0 a1 c_0 "weightAndHot" "I" (.int w)) (g1 : n0 ≤ a1) :
    MetFree l y_2 (head1 (Jvm.Cond.code y_2 prog_18_method_5_code 2 none :: ws) ({ frames := 0, cells := 0, slots := 0, locals := 0 } : Room)) (fun a U => a = #[(.ref a1), (.int (0 : Int32))] ∧ Z.Warmed39 U.vm ∧ U.heap = h0) (fun _ _ _ _ _ => True) (fun _ U o U' => ∃ v L, o = .returned v ∧ Q4_0 Z a1 w h0 n0 v U'.heap L ∧ FrameEnd U o U' L ({ frames := 0, cells := 0, slots := 0, locals := 0 } : Room).cells ({ frames := 0, cells := 0, slots := 0, locals := 0 } : Room).slots) := by
  refine MetFree.of_bodySF (plainFor_of_name pn_4_0) hisR ?_
  intro p e s m args below meth c s₁ Bd hml0 hP hK
  obtain ⟨rfl, hZ, hh⟩ := hP
  have hx := Bd.exec
  have hby := Bd.bytes
  have hml : c.maxLocals = 2 := hml0
  have hown : s.vm.findClass "com/example/larder/larder/Node" = some m.cls := findClass_of_methodNamed Bd.named
  have hnm := (name_of_methodNamed Bd.named Bd.method).1
  have X0 : Stand p l e ({ frames := 0, cells := 0, slots := 0, locals := 0 } : Room) s m #[(.ref a1), (.int (0 : Int32))] below meth c s₁ [] 0 0 := Stand.of_body Bd
  have e0 : s₁.heap = h0 := by rw [← hh, Bd.state]; rfl
  have N0 := Fr.nil n0
  have K0 : Keep h0 h0 [a1] := Keep.refl h0 [a1]
  obtain ⟨F0, hF0⟩ : ∃ F : JFrame, F = entryFrame m #[(.ref a1), (.int (0 : Int32))] 2 := ⟨_, rfl⟩
  have pre0 : ∀ t, Steps p.tables e below (s₁.setTop F0) t → Steps p.tables e below (s₁.setTop (entryFrame m #[(.ref a1), (.int (0 : Int32))] 2)) t := fun t k => hF0 ▸ k
  have go0 : Go p e below s₁ F0 s₁ (mkF m 0 #[vr a1, vi (0 : Int32)] []) := fun t k => castTop (hF0.trans (ef_4_0 m a1)) k
  have go1 : Go p e below s₁ F0 s₁ (mkF m 16 #[vr a1, vi (0 : Int32)] [(.ref a1), (.ref a1)]) := by
    intro t kt
    refine go0 t ?_
    refine o_aloadN X0 hx (hb hby d4_0) rfl rfl ?_
    refine o_iloadN X0 hx (hb hby d4_1) rfl ?_
    refine o_ifYes X0 hx (hb hby d4_2) (pc' := 15) rfl (by decide) ((if0 _ _).trans (teq (by decide : (0 : Int32) = (0 : Int32))).1) ?_
    refine o_aloadN X0 hx (hb hby d4_15) rfl rfl ?_
    exact kt
  obtain ⟨T2, X2, e2, st2⟩ := getF X0 hx hZ hown (host := "") (Or.inl (own_w hw 19 rfl)) Via.refl e0 Fw (g := (mkF m 16 #[vr a1, vi (0 : Int32)] [(.ref a1), (.ref a1)])) rfl rfl (hb hby d4_16)
  have go3 : Go p e below s₁ F0 T2 (mkF m 19 #[vr a1, vi (0 : Int32)] [(.int w), (.ref a1)]) := fun t k => go1 t (st2 t k)
  have go4 : Go p e below s₁ F0 T2 (mkF m 22 #[vr a1, vi (0 : Int32)] [(.int (w &&& (2147483647 : Int32))), (.ref a1)]) := by
    intro t kt
    refine go3 t ?_
    refine o_ldc X2 hx hown (mvT hZ (own_w hw 37 rfl)) (hb hby d4_19) ?_
    refine o_iand X2 hx (hb hby d4_21) ?_
    exact kt
  obtain ⟨T5, h5, X5, e5, W5, st5⟩ := putF X2 hx hZ hown (host := "") (Or.inl (own_w hw 19 rfl)) Via.refl e2 Fw E0 (Or.inl (own_w hw 20 rfl)) (own_w hw 2 rfl) (ty := .int) (by decide) rfl rfl (g := (mkF m 22 #[vr a1, vi (0 : Int32)] [(.int (w &&& (2147483647 : Int32))), (.ref a1)])) rfl rfl (hb hby d4_22)
  have Fw5 : Fld Z h5 a1 c_0 "weightAndHot" "I" (.int (w &&& (2147483647 : Int32))) := Fld.same W5 Fw
  have K6 : Keep h0 h5 [a1] := K0.wr W5 (Or.inl (List.mem_of_getElem? (i := 0) rfl))
  have Z6 : n0 ≤ h5.size := Nat.le_trans Z0 (Keep.of_wr W5).1
  have N5 := Fr.snoc X5 N0 g1
  have go7 : Go p e below s₁ F0 T5 (mkF m 25 #[vr a1, vi (0 : Int32)] []) := fun t k => go4 t (st5 t k)
  obtain ⟨fs, hr, hrun, hended, hW, hsame⟩ := X5.leave (v := none) (fun _ => rfl)
  refine ⟨_, _, pre0 _ (go7 _ ?_), hrun, hended, _, _, rfl, ?_, ⟨_, rfl⟩, hW, hsame.mono (by decide) (by decide)⟩
  · skip
    exact X5.returnOut hx Bd.returns (hb hby d4_25) hr
  · show Q4_0 Z a1 w h0 n0 _ T5.heap _
    rw [e5]
    exact ⟨rfl, N5, K6, Fw5⟩

theorem d4_5 : decode prog_18_method_5_code 5 = .ok (.aload_n 0, 1) := by decide +kernel
theorem d4_6 : decode prog_18_method_5_code 6 = .ok (.getfield 16, 3) := by decide +kernel
theorem d4_9 : decode prog_18_method_5_code 9 = .ok (.ldc 23, 2) := by decide +kernel
theorem d4_11 : decode prog_18_method_5_code 11 = .ok (.ior, 1) := by decide +kernel
theorem d4_12 : decode prog_18_method_5_code 12 = .ok (.goto 10, 3) := by decide +kernel
theorem pn_4_1 : plainName "com/example/larder/larder/Node" = true := by first | (simp [plainName, overriddenIn]; done) | decide +kernel
theorem ef_4_1 (m : MethodId) (x0 : Addr) : entryFrame m #[(.ref x0), (.int (1 : Int32))] 2 = mkF m 0 #[vr x0, vi (1 : Int32)] [] := by first | (simp [entryFrame, mkF, argsToLocals, Value.category]; done) | rfl
def Q4_1 (Z : State) (a1 : Addr) (w : Int32) (h0 : Heap) (n0 : Nat) (v : Option Value) (h : Heap) (L : List Loc) : Prop := v = none ∧ Fr n0 L ∧ Keep h0 h [a1] ∧ Fld Z h a1 c_0 "weightAndHot" "I" (.int (w ||| (-2147483648 : Int32)))
set_option maxRecDepth 65536 in
set_option maxHeartbeats 40000000 in
theorem rm4_1 (l : Launch) (Z : State) (a0 : Array Value) (hw : ∀ d ∈ tables_1, d.before a0 Z = true) (ws : List Jvm.Cond) (a1 : Addr) (w : Int32) (h0 : Heap) (n0 : Nat) (Z0 : n0 ≤ h0.size) (E0 : Exa Z h0 a1 c_0) (Fw : Fld Z h0 a1 c_0 "weightAndHot" "I" (.int w)) (g1 : n0 ≤ a1) :
    MetFree l y_2 (head1 (Jvm.Cond.code y_2 prog_18_method_5_code 2 none :: ws) ({ frames := 0, cells := 0, slots := 0, locals := 0 } : Room)) (fun a U => a = #[(.ref a1), (.int (1 : Int32))] ∧ Z.Warmed39 U.vm ∧ U.heap = h0) (fun _ _ _ _ _ => True) (fun _ U o U' => ∃ v L, o = .returned v ∧ Q4_1 Z a1 w h0 n0 v U'.heap L ∧ FrameEnd U o U' L ({ frames := 0, cells := 0, slots := 0, locals := 0 } : Room).cells ({ frames := 0, cells := 0, slots := 0, locals := 0 } : Room).slots) := by
  refine MetFree.of_bodySF (plainFor_of_name pn_4_1) hisR ?_
  intro p e s m args below meth c s₁ Bd hml0 hP hK
  obtain ⟨rfl, hZ, hh⟩ := hP
  have hx := Bd.exec
  have hby := Bd.bytes
  have hml : c.maxLocals = 2 := hml0
  have hown : s.vm.findClass "com/example/larder/larder/Node" = some m.cls := findClass_of_methodNamed Bd.named
  have hnm := (name_of_methodNamed Bd.named Bd.method).1
  have X0 : Stand p l e ({ frames := 0, cells := 0, slots := 0, locals := 0 } : Room) s m #[(.ref a1), (.int (1 : Int32))] below meth c s₁ [] 0 0 := Stand.of_body Bd
  have e0 : s₁.heap = h0 := by rw [← hh, Bd.state]; rfl
  have N0 := Fr.nil n0
  have K0 : Keep h0 h0 [a1] := Keep.refl h0 [a1]
  obtain ⟨F0, hF0⟩ : ∃ F : JFrame, F = entryFrame m #[(.ref a1), (.int (1 : Int32))] 2 := ⟨_, rfl⟩
  have pre0 : ∀ t, Steps p.tables e below (s₁.setTop F0) t → Steps p.tables e below (s₁.setTop (entryFrame m #[(.ref a1), (.int (1 : Int32))] 2)) t := fun t k => hF0 ▸ k
  have go0 : Go p e below s₁ F0 s₁ (mkF m 0 #[vr a1, vi (1 : Int32)] []) := fun t k => castTop (hF0.trans (ef_4_1 m a1)) k
  have go1 : Go p e below s₁ F0 s₁ (mkF m 6 #[vr a1, vi (1 : Int32)] [(.ref a1), (.ref a1)]) := by
    intro t kt
    refine go0 t ?_
    refine o_aloadN X0 hx (hb hby d4_0) rfl rfl ?_
    refine o_iloadN X0 hx (hb hby d4_1) rfl ?_
    refine o_ifNo X0 hx (hb hby d4_2) ((if0 _ _).trans (feq (by decide : ¬ ((1 : Int32) = (0 : Int32)))).1) ?_
    refine o_aloadN X0 hx (hb hby d4_5) rfl rfl ?_
    exact kt
  obtain ⟨T2, X2, e2, st2⟩ := getF X0 hx hZ hown (host := "") (Or.inl (own_w hw 19 rfl)) Via.refl e0 Fw (g := (mkF m 6 #[vr a1, vi (1 : Int32)] [(.ref a1), (.ref a1)])) rfl rfl (hb hby d4_6)
  have go3 : Go p e below s₁ F0 T2 (mkF m 9 #[vr a1, vi (1 : Int32)] [(.int w), (.ref a1)]) := fun t k => go1 t (st2 t k)
  have go4 : Go p e below s₁ F0 T2 (mkF m 22 #[vr a1, vi (1 : Int32)] [(.int (w ||| (-2147483648 : Int32))), (.ref a1)]) := by
    intro t kt
    refine go3 t ?_
    refine o_ldc X2 hx hown (mvT hZ (own_w hw 21 rfl)) (hb hby d4_9) ?_
    refine o_ior X2 hx (hb hby d4_11) ?_
    refine o_goto X2 hx (hb hby d4_12) (pc' := 22) rfl (by decide) ?_
    exact kt
  obtain ⟨T5, h5, X5, e5, W5, st5⟩ := putF X2 hx hZ hown (host := "") (Or.inl (own_w hw 19 rfl)) Via.refl e2 Fw E0 (Or.inl (own_w hw 20 rfl)) (own_w hw 2 rfl) (ty := .int) (by decide) rfl rfl (g := (mkF m 22 #[vr a1, vi (1 : Int32)] [(.int (w ||| (-2147483648 : Int32))), (.ref a1)])) rfl rfl (hb hby d4_22)
  have Fw5 : Fld Z h5 a1 c_0 "weightAndHot" "I" (.int (w ||| (-2147483648 : Int32))) := Fld.same W5 Fw
  have K6 : Keep h0 h5 [a1] := K0.wr W5 (Or.inl (List.mem_of_getElem? (i := 0) rfl))
  have Z6 : n0 ≤ h5.size := Nat.le_trans Z0 (Keep.of_wr W5).1
  have N5 := Fr.snoc X5 N0 g1
  have go7 : Go p e below s₁ F0 T5 (mkF m 25 #[vr a1, vi (1 : Int32)] []) := fun t k => go4 t (st5 t k)
  obtain ⟨fs, hr, hrun, hended, hW, hsame⟩ := X5.leave (v := none) (fun _ => rfl)
  refine ⟨_, _, pre0 _ (go7 _ ?_), hrun, hended, _, _, rfl, ?_, ⟨_, rfl⟩, hW, hsame.mono (by decide) (by decide)⟩
  · skip
    exact X5.returnOut hx Bd.returns (hb hby d4_25) hr
  · show Q4_1 Z a1 w h0 n0 _ T5.heap _
    rw [e5]
    exact ⟨rfl, N5, K6, Fw5⟩

theorem d6_0 : decode prog_18_method_2_code 0 = .ok (.aload_n 0, 1) := by decide +kernel
theorem d6_1 : decode prog_18_method_2_code 1 = .ok (.getfield 16, 3) := by decide +kernel
theorem d6_4 : decode prog_18_method_2_code 4 = .ok (.ldc 22, 2) := by decide +kernel
theorem d6_6 : decode prog_18_method_2_code 6 = .ok (.iand, 1) := by decide +kernel
theorem d6_7 : decode prog_18_method_2_code 7 = .ok (.ireturn, 1) := by decide +kernel
theorem pn_6 : plainName "com/example/larder/larder/Node" = true := by first | (simp [plainName, overriddenIn]; done) | decide +kernel
theorem ef_6 (m : MethodId) (x0 : Addr) : entryFrame m #[(.ref x0)] 1 = mkF m 0 #[vr x0] [] := by first | (simp [entryFrame, mkF, argsToLocals, Value.category]; done) | rfl
def Q6 (Z : State) (a1 : Addr) (w : Int32) (h0 : Heap) (n0 : Nat) (v : Option Value) (h : Heap) (L : List Loc) : Prop := v = some (.int (w &&& (2147483647 : Int32))) ∧ Fr n0 L ∧ h = h0
set_option maxRecDepth 65536 in
set_option maxHeartbeats 40000000 in
theorem rm6 (l : Launch) (Z : State) (a0 : Array Value) (hw : ∀ d ∈ tables_1, d.before a0 Z = true) (ws : List Jvm.Cond) (a1 : Addr) (w : Int32) (h0 : Heap) (n0 : Nat) (Z0 : n0 ≤ h0.size) (Fw : Fld Z h0 a1 c_0 "weightAndHot" "I" (.int w)) :
    MetFree l y_3 (head1 (Jvm.Cond.code y_3 prog_18_method_2_code 1 (some .int) :: ws) ({ frames := 0, cells := 0, slots := 0, locals := 0 } : Room)) (fun a U => a = #[(.ref a1)] ∧ Z.Warmed39 U.vm ∧ U.heap = h0) (fun _ _ _ _ _ => True) (fun _ U o U' => ∃ v L, o = .returned v ∧ Q6 Z a1 w h0 n0 v U'.heap L ∧ FrameEnd U o U' L ({ frames := 0, cells := 0, slots := 0, locals := 0 } : Room).cells ({ frames := 0, cells := 0, slots := 0, locals := 0 } : Room).slots) := by
  refine MetFree.of_bodySF (plainFor_of_name pn_6) hisR ?_
  intro p e s m args below meth c s₁ Bd hml0 hP hK
  obtain ⟨rfl, hZ, hh⟩ := hP
  have hx := Bd.exec
  have hby := Bd.bytes
  have hml : c.maxLocals = 1 := hml0
  have hown : s.vm.findClass "com/example/larder/larder/Node" = some m.cls := findClass_of_methodNamed Bd.named
  have hnm := (name_of_methodNamed Bd.named Bd.method).1
  have X0 : Stand p l e ({ frames := 0, cells := 0, slots := 0, locals := 0 } : Room) s m #[(.ref a1)] below meth c s₁ [] 0 0 := Stand.of_body Bd
  have e0 : s₁.heap = h0 := by rw [← hh, Bd.state]; rfl
  have N0 := Fr.nil n0
  obtain ⟨F0, hF0⟩ : ∃ F : JFrame, F = entryFrame m #[(.ref a1)] 1 := ⟨_, rfl⟩
  have pre0 : ∀ t, Steps p.tables e below (s₁.setTop F0) t → Steps p.tables e below (s₁.setTop (entryFrame m #[(.ref a1)] 1)) t := fun t k => hF0 ▸ k
  have go0 : Go p e below s₁ F0 s₁ (mkF m 0 #[vr a1] []) := fun t k => castTop (hF0.trans (ef_6 m a1)) k
  have go1 : Go p e below s₁ F0 s₁ (mkF m 1 #[vr a1] [(.ref a1)]) := by
    intro t kt
    refine go0 t ?_
    refine o_aloadN X0 hx (hb hby d6_0) rfl rfl ?_
    exact kt
  obtain ⟨T2, X2, e2, st2⟩ := getF X0 hx hZ hown (host := "") (Or.inl (own_w hw 19 rfl)) Via.refl e0 Fw (g := (mkF m 1 #[vr a1] [(.ref a1)])) rfl rfl (hb hby d6_1)
  have go3 : Go p e below s₁ F0 T2 (mkF m 4 #[vr a1] [(.int w)]) := fun t k => go1 t (st2 t k)
  have go4 : Go p e below s₁ F0 T2 (mkF m 7 #[vr a1] [(.int (w &&& (2147483647 : Int32)))]) := by
    intro t kt
    refine go3 t ?_
    refine o_ldc X2 hx hown (mvT hZ (own_w hw 37 rfl)) (hb hby d6_4) ?_
    refine o_iand X2 hx (hb hby d6_6) ?_
    exact kt
  obtain ⟨fs, hr, hrun, hended, hW, hsame⟩ := X2.leave (v := some (.int (w &&& (2147483647 : Int32)))) (fun h => by rw [Bd.returns] at h; cases h)
  refine ⟨_, _, pre0 _ (go4 _ ?_), hrun, hended, _, _, rfl, ?_, ⟨_, rfl⟩, hW, hsame.mono (by decide) (by decide)⟩
  · skip
    exact retI X2 hx Bd.returns (hb hby d6_7) hr
  · show Q6 Z a1 w h0 n0 _ T2.heap _
    rw [e2]
    exact ⟨rfl, N0, rfl⟩

theorem d5_0 : decode prog_18_method_4_code 0 = .ok (.aload_n 0, 1) := by decide +kernel
theorem d5_1 : decode prog_18_method_4_code 1 = .ok (.getfield 16, 3) := by decide +kernel
theorem d5_4 : decode prog_18_method_4_code 4 = .ok (.ifCond .ge 7, 3) := by decide +kernel
theorem d5_11 : decode prog_18_method_4_code 11 = .ok (.iconst 0, 1) := by decide +kernel
theorem d5_12 : decode prog_18_method_4_code 12 = .ok (.ireturn, 1) := by decide +kernel
theorem pn_5_0 : plainName "com/example/larder/larder/Node" = true := by first | (simp [plainName, overriddenIn]; done) | decide +kernel
theorem ef_5_0 (m : MethodId) (x0 : Addr) : entryFrame m #[(.ref x0)] 1 = mkF m 0 #[vr x0] [] := by first | (simp [entryFrame, mkF, argsToLocals, Value.category]; done) | rfl
def Q5_0 (Z : State) (a1 : Addr) (w : Int32) (h0 : Heap) (n0 : Nat) (v : Option Value) (h : Heap) (L : List Loc) : Prop := v = some (.int (0 : Int32)) ∧ Fr n0 L ∧ h = h0
set_option maxRecDepth 65536 in
set_option maxHeartbeats 40000000 in
theorem rm5_0 (l : Launch) (Z : State) (a0 : Array Value) (hw : ∀ d ∈ tables_1, d.before a0 Z = true) (ws : List Jvm.Cond) (a1 : Addr) (w : Int32) (h0 : Heap) (n0 : Nat) (Z0 : n0 ≤ h0.size) (Fw : Fld Z h0 a1 c_0 "weightAndHot" "I" (.int w)) (hs : ¬ w < (0 : Int32)) :
    MetFree l y_4 (head1 (Jvm.Cond.code y_4 prog_18_method_4_code 1 (some .boolean) :: ws) ({ frames := 0, cells := 0, slots := 0, locals := 0 } : Room)) (fun a U => a = #[(.ref a1)] ∧ Z.Warmed39 U.vm ∧ U.heap = h0) (fun _ _ _ _ _ => True) (fun _ U o U' => ∃ v L, o = .returned v ∧ Q5_0 Z a1 w h0 n0 v U'.heap L ∧ FrameEnd U o U' L ({ frames := 0, cells := 0, slots := 0, locals := 0 } : Room).cells ({ frames := 0, cells := 0, slots := 0, locals := 0 } : Room).slots) := by
  refine MetFree.of_bodySF (plainFor_of_name pn_5_0) hisR ?_
  intro p e s m args below meth c s₁ Bd hml0 hP hK
  obtain ⟨rfl, hZ, hh⟩ := hP
  have hx := Bd.exec
  have hby := Bd.bytes
  have hml : c.maxLocals = 1 := hml0
  have hown : s.vm.findClass "com/example/larder/larder/Node" = some m.cls := findClass_of_methodNamed Bd.named
  have hnm := (name_of_methodNamed Bd.named Bd.method).1
  have X0 : Stand p l e ({ frames := 0, cells := 0, slots := 0, locals := 0 } : Room) s m #[(.ref a1)] below meth c s₁ [] 0 0 := Stand.of_body Bd
  have e0 : s₁.heap = h0 := by rw [← hh, Bd.state]; rfl
  have N0 := Fr.nil n0
  obtain ⟨F0, hF0⟩ : ∃ F : JFrame, F = entryFrame m #[(.ref a1)] 1 := ⟨_, rfl⟩
  have pre0 : ∀ t, Steps p.tables e below (s₁.setTop F0) t → Steps p.tables e below (s₁.setTop (entryFrame m #[(.ref a1)] 1)) t := fun t k => hF0 ▸ k
  have go0 : Go p e below s₁ F0 s₁ (mkF m 0 #[vr a1] []) := fun t k => castTop (hF0.trans (ef_5_0 m a1)) k
  have go1 : Go p e below s₁ F0 s₁ (mkF m 1 #[vr a1] [(.ref a1)]) := by
    intro t kt
    refine go0 t ?_
    refine o_aloadN X0 hx (hb hby d5_0) rfl rfl ?_
    exact kt
  obtain ⟨T2, X2, e2, st2⟩ := getF X0 hx hZ hown (host := "") (Or.inl (own_w hw 19 rfl)) Via.refl e0 Fw (g := (mkF m 1 #[vr a1] [(.ref a1)])) rfl rfl (hb hby d5_1)
  have go3 : Go p e below s₁ F0 T2 (mkF m 4 #[vr a1] [(.int w)]) := fun t k => go1 t (st2 t k)
  have go4 : Go p e below s₁ F0 T2 (mkF m 12 #[vr a1] [(.int (0 : Int32))]) := by
    intro t kt
    refine go3 t ?_
    refine o_ifYes X2 hx (hb hby d5_4) (pc' := 11) rfl (by decide) ((if0 _ _).trans (flt hs).2.1) ?_
    refine o_iconst X2 hx (hb hby d5_11) (v := 0) rfl ?_
    exact kt
  obtain ⟨fs, hr, hrun, hended, hW, hsame⟩ := X2.leave (v := some (.int (0 : Int32))) (fun h => by rw [Bd.returns] at h; cases h)
  refine ⟨_, _, pre0 _ (go4 _ ?_), hrun, hended, _, _, rfl, ?_, ⟨_, rfl⟩, hW, hsame.mono (by decide) (by decide)⟩
  · skip
    exact retN X2 hx (t := .boolean) Bd.returns (by simp) (hb hby d5_12) hr
  · show Q5_0 Z a1 w h0 n0 _ T2.heap _
    rw [e2]
    exact ⟨rfl, N0, rfl⟩

theorem d5_7 : decode prog_18_method_4_code 7 = .ok (.iconst 1, 1) := by decide +kernel
theorem d5_8 : decode prog_18_method_4_code 8 = .ok (.goto 4, 3) := by decide +kernel
theorem pn_5_1 : plainName "com/example/larder/larder/Node" = true := by first | (simp [plainName, overriddenIn]; done) | decide +kernel
theorem ef_5_1 (m : MethodId) (x0 : Addr) : entryFrame m #[(.ref x0)] 1 = mkF m 0 #[vr x0] [] := by first | (simp [entryFrame, mkF, argsToLocals, Value.category]; done) | rfl
def Q5_1 (Z : State) (a1 : Addr) (w : Int32) (h0 : Heap) (n0 : Nat) (v : Option Value) (h : Heap) (L : List Loc) : Prop := v = some (.int (1 : Int32)) ∧ Fr n0 L ∧ h = h0
set_option maxRecDepth 65536 in
set_option maxHeartbeats 40000000 in
theorem rm5_1 (l : Launch) (Z : State) (a0 : Array Value) (hw : ∀ d ∈ tables_1, d.before a0 Z = true) (ws : List Jvm.Cond) (a1 : Addr) (w : Int32) (h0 : Heap) (n0 : Nat) (Z0 : n0 ≤ h0.size) (Fw : Fld Z h0 a1 c_0 "weightAndHot" "I" (.int w)) (hs : w < (0 : Int32)) :
    MetFree l y_4 (head1 (Jvm.Cond.code y_4 prog_18_method_4_code 1 (some .boolean) :: ws) ({ frames := 0, cells := 0, slots := 0, locals := 0 } : Room)) (fun a U => a = #[(.ref a1)] ∧ Z.Warmed39 U.vm ∧ U.heap = h0) (fun _ _ _ _ _ => True) (fun _ U o U' => ∃ v L, o = .returned v ∧ Q5_1 Z a1 w h0 n0 v U'.heap L ∧ FrameEnd U o U' L ({ frames := 0, cells := 0, slots := 0, locals := 0 } : Room).cells ({ frames := 0, cells := 0, slots := 0, locals := 0 } : Room).slots) := by
  refine MetFree.of_bodySF (plainFor_of_name pn_5_1) hisR ?_
  intro p e s m args below meth c s₁ Bd hml0 hP hK
  obtain ⟨rfl, hZ, hh⟩ := hP
  have hx := Bd.exec
  have hby := Bd.bytes
  have hml : c.maxLocals = 1 := hml0
  have hown : s.vm.findClass "com/example/larder/larder/Node" = some m.cls := findClass_of_methodNamed Bd.named
  have hnm := (name_of_methodNamed Bd.named Bd.method).1
  have X0 : Stand p l e ({ frames := 0, cells := 0, slots := 0, locals := 0 } : Room) s m #[(.ref a1)] below meth c s₁ [] 0 0 := Stand.of_body Bd
  have e0 : s₁.heap = h0 := by rw [← hh, Bd.state]; rfl
  have N0 := Fr.nil n0
  obtain ⟨F0, hF0⟩ : ∃ F : JFrame, F = entryFrame m #[(.ref a1)] 1 := ⟨_, rfl⟩
  have pre0 : ∀ t, Steps p.tables e below (s₁.setTop F0) t → Steps p.tables e below (s₁.setTop (entryFrame m #[(.ref a1)] 1)) t := fun t k => hF0 ▸ k
  have go0 : Go p e below s₁ F0 s₁ (mkF m 0 #[vr a1] []) := fun t k => castTop (hF0.trans (ef_5_1 m a1)) k
  have go1 : Go p e below s₁ F0 s₁ (mkF m 1 #[vr a1] [(.ref a1)]) := by
    intro t kt
    refine go0 t ?_
    refine o_aloadN X0 hx (hb hby d5_0) rfl rfl ?_
    exact kt
  obtain ⟨T2, X2, e2, st2⟩ := getF X0 hx hZ hown (host := "") (Or.inl (own_w hw 19 rfl)) Via.refl e0 Fw (g := (mkF m 1 #[vr a1] [(.ref a1)])) rfl rfl (hb hby d5_1)
  have go3 : Go p e below s₁ F0 T2 (mkF m 4 #[vr a1] [(.int w)]) := fun t k => go1 t (st2 t k)
  have go4 : Go p e below s₁ F0 T2 (mkF m 12 #[vr a1] [(.int (1 : Int32))]) := by
    intro t kt
    refine go3 t ?_
    refine o_ifNo X2 hx (hb hby d5_4) ((if0 _ _).trans (tlt hs).2.1) ?_
    refine o_iconst X2 hx (hb hby d5_7) (v := 1) rfl ?_
    refine o_goto X2 hx (hb hby d5_8) (pc' := 12) rfl (by decide) ?_
    exact kt
  obtain ⟨fs, hr, hrun, hended, hW, hsame⟩ := X2.leave (v := some (.int (1 : Int32))) (fun h => by rw [Bd.returns] at h; cases h)
  refine ⟨_, _, pre0 _ (go4 _ ?_), hrun, hended, _, _, rfl, ?_, ⟨_, rfl⟩, hW, hsame.mono (by decide) (by decide)⟩
  · skip
    exact retN X2 hx (t := .boolean) Bd.returns (by simp) (hb hby d5_12) hr
  · show Q5_1 Z a1 w h0 n0 _ T2.heap _
    rw [e2]
    exact ⟨rfl, N0, rfl⟩

theorem own_max (i : Nat) (h : i < 32) : (2147483647 : Int32).toBitVec.getLsbD i = decide (i ≠ 31) := by
  have q : ∀ j : Fin 32, (2147483647 : Int32).toBitVec.getLsbD j.1 = decide (j.1 ≠ 31) := by decide
  exact q ⟨i, h⟩
theorem own_min (i : Nat) (h : i < 32) : (-2147483648 : Int32).toBitVec.getLsbD i = decide (i = 31) := by
  have q : ∀ j : Fin 32, (-2147483648 : Int32).toBitVec.getLsbD j.1 = decide (j.1 = 31) := by decide
  exact q ⟨i, h⟩
theorem own_zero (i : Nat) : (0 : Int32).toBitVec.getLsbD i = false := by
  show (0#32).getLsbD i = false
  simp
theorem own_bits (x y : Int32) (h : ∀ i, i < 32 → x.toBitVec.getLsbD i = y.toBitVec.getLsbD i) : x = y := by
  apply Int32.toBitVec_inj.mp
  exact BitVec.eq_of_getLsbD_eq h
theorem own_sign (x : Int32) : x < (0 : Int32) ↔ x.toBitVec.getLsbD 31 = true := by
  rw [Int32.lt_iff_toInt_lt, show (0 : Int32).toInt = 0 from rfl]
  show x.toBitVec.toInt < 0 ↔ _
  have h : x.toBitVec.msb = x.toBitVec.getLsbD 31 := by rw [BitVec.msb_eq_getLsbD_last]
  rw [← h, BitVec.msb_eq_toInt]
  simp

theorem pn_0 : plainName "com/example/larder/larder/NodeSetHotPinLaw" = true := by first | (simp [plainName, overriddenIn]; done) | decide +kernel
theorem pd0_0 : parseMethodDescriptor "(Ljava/lang/Object;Ljava/lang/Object;)V" = some ⟨[(.object "java/lang/Object"), (.object "java/lang/Object")], none⟩ := by decide +kernel
theorem pd0_1 : parseMethodDescriptor "(I)V" = some ⟨[.int], none⟩ := by decide +kernel
theorem pd0_2 : parseMethodDescriptor "(Z)V" = some ⟨[.boolean], none⟩ := by decide +kernel
theorem pd0_3 : parseMethodDescriptor "()Z" = some ⟨[], some .boolean⟩ := by decide +kernel
theorem pd0_4 : parseMethodDescriptor "()I" = some ⟨[], some .int⟩ := by decide +kernel
theorem ef_0 (m : MethodId) (x0 : Int32) (x1 : Int32) : entryFrame m #[(.int x0), (.int x1)] maxLocals = mkF m 0 #[vi x0, vi x1, .unset, .unset, .unset, .unset, .unset, .unset] [] := by first | (simp [entryFrame, mkF, argsToLocals, Value.category, maxLocals]; done) | rfl
def Q0 (Z : State) (p1 : Int32) (p2 : Int32) (h0 : Heap) (n0 : Nat) (v : Option Value) (h : Heap) (L : List Loc) : Prop := v = some (.int (1 : Int32)) ∧ Fr n0 L
set_option maxRecDepth 65536 in
set_option maxHeartbeats 40000000 in
theorem rm0 (l : Launch) (Z : State) (a0 : Array Value) (hw : ∀ d ∈ tables_1, d.before a0 Z = true) (ws : List Jvm.Cond) (p1 : Int32) (p2 : Int32) (h0 : Heap) (n0 : Nat) (Z0 : n0 ≤ h0.size) :
    MetFree l x (head1 (Jvm.Cond.code x code maxLocals ret :: ws) room_1) (fun a U => a = #[(.int p1), (.int p2)] ∧ Z.Warmed39 U.vm ∧ U.heap = h0) (fun _ _ _ _ _ => True) (fun _ U o U' => ∃ v L, o = .returned v ∧ Q0 Z p1 p2 h0 n0 v U'.heap L ∧ FrameEnd U o U' L room_1.cells room_1.slots) := by
  refine MetFree.of_bodySF (plainFor_of_name pn_0) hisR ?_
  intro p e s m args below meth c s₁ Bd hml0 hP hK
  obtain ⟨rfl, hZ, hh⟩ := hP
  have hx := Bd.exec
  have hby := Bd.bytes
  have hml : c.maxLocals = 8 := hml0
  have hown : s.vm.findClass "com/example/larder/larder/NodeSetHotPinLaw" = some m.cls := findClass_of_methodNamed Bd.named
  have hnm := (name_of_methodNamed Bd.named Bd.method).1
  have X0 : Stand p l e room_1 s m #[(.int p1), (.int p2)] below meth c s₁ [] 0 0 := Stand.of_body Bd
  have e0 : s₁.heap = h0 := by rw [← hh, Bd.state]; rfl
  have N0 := Fr.nil n0
  obtain ⟨F0, hF0⟩ : ∃ F : JFrame, F = entryFrame m #[(.int p1), (.int p2)] maxLocals := ⟨_, rfl⟩
  have pre0 : ∀ t, Steps p.tables e below (s₁.setTop F0) t → Steps p.tables e below (s₁.setTop (entryFrame m #[(.int p1), (.int p2)] maxLocals)) t := fun t k => hF0 ▸ k
  have go0 : Go p e below s₁ F0 s₁ (mkF m 0 #[vi p1, vi p2, .unset, .unset, .unset, .unset, .unset, .unset] []) := fun t k => castTop (hF0.trans (ef_0 m p1 p2)) k
  have go1 : Go p e below s₁ F0 s₁ (mkF m 8 #[vi p1, vi p2, vi (p1 &&& (2147483647 : Int32)), .unset, .unset, .unset, .unset, .unset] [(.int (p2 &&& (1 : Int32)))]) := by
    intro t kt
    refine go0 t ?_
    refine o_iloadN X0 hx (hb hby at_0) rfl ?_
    refine o_ldc X0 hx hown (mvT hZ (own_w hw 0 rfl)) (hb hby at_1) ?_
    refine o_iand X0 hx (hb hby at_3) ?_
    refine o_istoreN X0 hx (hb hby at_4) (L' := #[vi p1, vi p2, vi (p1 &&& (2147483647 : Int32)), .unset, .unset, .unset, .unset, .unset]) rfl ?_
    refine o_iloadN X0 hx (hb hby at_5) rfl ?_
    refine o_iconst X0 hx (hb hby at_6) (v := 1) rfl ?_
    refine o_iand X0 hx (hb hby at_7) ?_
    exact kt
  by_cases hc8_2 : (p2 &&& (1 : Int32)) = (0 : Int32)
  · skip
    have go3 : Go p e below s₁ F0 s₁ (mkF m 20 #[vi p1, vi p2, vi (p1 &&& (2147483647 : Int32)), vi (0 : Int32), .unset, .unset, .unset, .unset] [(.int (p2 &&& (2 : Int32)))]) := by
      intro t kt
      refine go1 t ?_
      refine o_ifYes X0 hx (hb hby at_8) (pc' := 15) rfl (by decide) ((if0 _ _).trans (teq hc8_2).1) ?_
      refine o_iconst X0 hx (hb hby at_15) (v := 0) rfl ?_
      refine o_istoreN X0 hx (hb hby at_16) (L' := #[vi p1, vi p2, vi (p1 &&& (2147483647 : Int32)), vi (0 : Int32), .unset, .unset, .unset, .unset]) rfl ?_
      refine o_iloadN X0 hx (hb hby at_17) rfl ?_
      refine o_iconst X0 hx (hb hby at_18) (v := 2) rfl ?_
      refine o_iand X0 hx (hb hby at_19) ?_
      exact kt
    by_cases hc20_4 : (p2 &&& (2 : Int32)) = (0 : Int32)
    · skip
      have go5 : Go p e below s₁ F0 s₁ (mkF m 30 #[vi p1, vi p2, vi (p1 &&& (2147483647 : Int32)), vi (0 : Int32), vi (0 : Int32), .unset, .unset, .unset] []) := by
        intro t kt
        refine go3 t ?_
        refine o_ifYes X0 hx (hb hby at_20) (pc' := 27) rfl (by decide) ((if0 _ _).trans (teq hc20_4).1) ?_
        refine o_iconst X0 hx (hb hby at_27) (v := 0) rfl ?_
        refine o_istore X0 hx (hb hby at_28) (L' := #[vi p1, vi p2, vi (p1 &&& (2147483647 : Int32)), vi (0 : Int32), vi (0 : Int32), .unset, .unset, .unset]) rfl ?_
        exact kt
      obtain ⟨T6, h6, X6, e6, E6, A6, D6, -, st6⟩ := newO X0 hx hZ hown (own_w hw 1 rfl) (own_w hw 2 rfl) (own_w hw 3 rfl) e0 (g := (mkF m 30 #[vi p1, vi p2, vi (p1 &&& (2147483647 : Int32)), vi (0 : Int32), vi (0 : Int32), .unset, .unset, .unset] [])) rfl (hb hby at_30) (by decide) (by decide)
      obtain ⟨b6, gz6⟩ : ∃ z, z = h0.size := ⟨_, rfl⟩
      rw [← gz6] at A6 D6 st6
      have g_b6 : n0 ≤ b6 := Nat.le_trans Z0 (Nat.le_of_eq gz6.symm)
      have Z7 : n0 ≤ h6.size := Nat.le_trans Z0 E6.1
      have F8 : Fld Z h6 b6 c_0 "key" "Ljava/lang/Object;" .null := D6 (Or.inr (own_w hw 11 rfl)) (ty := (.object "java/lang/Object")) (by decide)
      have F9 : Fld Z h6 b6 c_0 "value" "Ljava/lang/Object;" .null := D6 (Or.inl (own_w hw 13 rfl)) (ty := (.object "java/lang/Object")) (by decide)
      have F10 : Fld Z h6 b6 c_0 "weightAndHot" "I" (.int (0 : Int32)) := D6 (Or.inl (own_w hw 20 rfl)) (ty := .int) (by decide)
      have go11 : Go p e below s₁ F0 T6 (mkF m 33 #[vi p1, vi p2, vi (p1 &&& (2147483647 : Int32)), vi (0 : Int32), vi (0 : Int32), .unset, .unset, .unset] [(.ref b6)]) := fun t k => go5 t (st6 t k)
      have go12 : Go p e below s₁ F0 T6 (mkF m 36 #[vi p1, vi p2, vi (p1 &&& (2147483647 : Int32)), vi (0 : Int32), vi (0 : Int32), .unset, .unset, .unset] [.null, .null, (.ref b6), (.ref b6)]) := by
        intro t kt
        refine go11 t ?_
        refine o_dup X6 hx (hb hby at_33) rfl ?_
        refine o_null X6 hx (hb hby at_34) ?_
        refine o_null X6 hx (hb hby at_35) ?_
        exact kt
      obtain ⟨_, _, ⟨T13, L13, k13, n13⟩, -, X13, ⟨Lc13, hQ13, l13, y13, z13⟩, st13⟩ := X6.specialBack hx (y := y_0) rfl hown (mvT hZ (own_w hw 4 rfl)) (mvT hZ (own_w hw 5 rfl)) (mvT hZ (own_w hw 6 rfl)) (by decide) (backOf (W := 1) (rm1 l Z a0 hw [] b6 h6 n0 Z7 A6 F8 F9 F10 g_b6) hZ (own_w hw 6 rfl) (own_w hw 3 rfl) (by decide) (by decide)) (g := (mkF m 36 #[vi p1, vi p2, vi (p1 &&& (2147483647 : Int32)), vi (0 : Int32), vi (0 : Int32), .unset, .unset, .unset] [.null, .null, (.ref b6), (.ref b6)])) rfl (by rw [hml]; rfl) (Steps.refl _) (a := b6) (argsL := [.null, .null]) (rest := [(.ref b6)]) (lenOf pd0_0 rfl) rfl (by show 2 * 0 + _ ≤ _; exact Nat.le_of_eq rfl) (hb hby at_36) (fun _ _ => ⟨rfl, e6, (by decide : 1 + 0 ≤ _), (by decide : 5 + 0 ≤ _)⟩)
      dsimp only [Pt.U, Pt.locs, Pt.cells, Pt.slots] at X13 l13 y13 z13 st13 hQ13
      subst l13 y13 z13
      obtain ⟨rfl, Nq13, Kc13, E_13, Fw_13⟩ := hQ13
      have N13 := Fr.app N0 Nq13
      have Z14 : n0 ≤ T13.heap.size := Nat.le_trans Z7 Kc13.1
      have go15 : Go p e below s₁ F0 T13 (mkF m 39 #[vi p1, vi p2, vi (p1 &&& (2147483647 : Int32)), vi (0 : Int32), vi (0 : Int32), .unset, .unset, .unset] [(.ref b6)]) := fun t k => go12 t (st13.trans k)
      have go16 : Go p e below s₁ F0 T13 (mkF m 44 #[vi p1, vi p2, vi (p1 &&& (2147483647 : Int32)), vi (0 : Int32), vi (0 : Int32), vr b6, .unset, .unset] [(.int (p1 &&& (2147483647 : Int32))), (.ref b6)]) := by
        intro t kt
        refine go15 t ?_
        refine o_astore X13 hx (hb hby at_39) rfl (L' := #[vi p1, vi p2, vi (p1 &&& (2147483647 : Int32)), vi (0 : Int32), vi (0 : Int32), vr b6, .unset, .unset]) rfl ?_
        refine o_aload X13 hx (hb hby at_41) rfl rfl ?_
        refine o_iloadN X13 hx (hb hby at_43) rfl ?_
        exact kt
      obtain ⟨cq17, kq17, q17a, q17b, q17c⟩ := isOf hZ rfl E_13
      obtain ⟨_, _, ⟨T17, L17, k17, n17⟩, -, X17, ⟨Lc17, hQ17, l17, y17, z17⟩, st17⟩ := X13.virtualBack hx (y := y_1) (z := y_1) hown (mvT hZ (own_w hw 14 rfl)) (mvT hZ (own_w hw 15 rfl)) (notFace_of_selects (args := #[]) (mvT hZ (own_w hw 17 rfl))) (mvT hZ (own_w hw 17 rfl)) (mvT hZ (own_w hw 16 rfl)) (by decide) (backOf (W := 0) (rm3 l Z a0 hw [] b6 (p1 &&& (2147483647 : Int32)) (0 : Int32) (T13.heap) n0 Z14 E_13 Fw_13 g_b6) hZ (own_w hw 18 rfl) (own_w hw 3 rfl) (by decide) (by decide)) q17a q17c (g := (mkF m 44 #[vi p1, vi p2, vi (p1 &&& (2147483647 : Int32)), vi (0 : Int32), vi (0 : Int32), vr b6, .unset, .unset] [(.int (p1 &&& (2147483647 : Int32))), (.ref b6)])) rfl (by rw [hml]; rfl) (Steps.refl _) (argsL := [(.int (p1 &&& (2147483647 : Int32)))]) (rest := []) (lenOf pd0_1 rfl) rfl (by show 2 * 0 + _ ≤ _; exact Nat.le_of_eq rfl) (hb hby at_44) (fun _ _ => ⟨rfl, rfl, (by decide : 1 + 0 ≤ _), (by decide : 5 + 0 ≤ _)⟩)
      dsimp only [Pt.U, Pt.locs, Pt.cells, Pt.slots] at X17 l17 y17 z17 st17 hQ17
      subst l17 y17 z17
      obtain ⟨rfl, Nq17, Kc17, Fw_17⟩ := hQ17
      have N17 := Fr.app N13 Nq17
      have Z18 : n0 ≤ T17.heap.size := Nat.le_trans Z14 Kc17.1
      have go19 : Go p e below s₁ F0 T17 (mkF m 47 #[vi p1, vi p2, vi (p1 &&& (2147483647 : Int32)), vi (0 : Int32), vi (0 : Int32), vr b6, .unset, .unset] []) := fun t k => go16 t (st17.trans k)
      have F20 : Exa Z T17.heap b6 c_0 := (E_13.keep Kc17)
      have go21 : Go p e below s₁ F0 T17 (mkF m 50 #[vi p1, vi p2, vi (p1 &&& (2147483647 : Int32)), vi (0 : Int32), vi (0 : Int32), vr b6, .unset, .unset] [(.int (0 : Int32)), (.ref b6)]) := by
        intro t kt
        refine go19 t ?_
        refine o_aload X17 hx (hb hby at_47) rfl rfl ?_
        refine o_iloadN X17 hx (hb hby at_49) rfl ?_
        exact kt
      obtain ⟨cq22, kq22, q22a, q22b, q22c⟩ := isOf hZ rfl F20
      obtain ⟨_, _, ⟨T22, L22, k22, n22⟩, -, X22, ⟨Lc22, hQ22, l22, y22, z22⟩, st22⟩ := X17.virtualBack hx (y := y_2) (z := y_2) hown (mvT hZ (own_w hw 22 rfl)) (mvT hZ (own_w hw 23 rfl)) (notFace_of_selects (args := #[]) (mvT hZ (own_w hw 25 rfl))) (mvT hZ (own_w hw 25 rfl)) (mvT hZ (own_w hw 24 rfl)) (by decide) (backOf (W := 0) (rm4_0 l Z a0 hw [] b6 (((0 : Int32) &&& (-2147483648 : Int32)) ||| (p1 &&& (2147483647 : Int32))) (T17.heap) n0 Z18 F20 Fw_17 g_b6) hZ (own_w hw 26 rfl) (own_w hw 3 rfl) (by decide) (by decide)) q22a q22c (g := (mkF m 50 #[vi p1, vi p2, vi (p1 &&& (2147483647 : Int32)), vi (0 : Int32), vi (0 : Int32), vr b6, .unset, .unset] [(.int (0 : Int32)), (.ref b6)])) rfl (by rw [hml]; rfl) (Steps.refl _) (argsL := [(.int (0 : Int32))]) (rest := []) (lenOf pd0_2 rfl) rfl (by show 2 * 0 + _ ≤ _; exact Nat.le_of_eq rfl) (hb hby at_50) (fun _ _ => ⟨rfl, rfl, (by decide : 1 + 0 ≤ _), (by decide : 5 + 0 ≤ _)⟩)
      dsimp only [Pt.U, Pt.locs, Pt.cells, Pt.slots] at X22 l22 y22 z22 st22 hQ22
      subst l22 y22 z22
      obtain ⟨rfl, Nq22, Kc22, Fw_22⟩ := hQ22
      have N22 := Fr.app N17 Nq22
      have Z23 : n0 ≤ T22.heap.size := Nat.le_trans Z18 Kc22.1
      have go24 : Go p e below s₁ F0 T22 (mkF m 53 #[vi p1, vi p2, vi (p1 &&& (2147483647 : Int32)), vi (0 : Int32), vi (0 : Int32), vr b6, .unset, .unset] []) := fun t k => go21 t (st22.trans k)
      have go25 : Go p e below s₁ F0 T22 (mkF m 55 #[vi p1, vi p2, vi (p1 &&& (2147483647 : Int32)), vi (0 : Int32), vi (0 : Int32), vr b6, .unset, .unset] [(.ref b6)]) := by
        intro t kt
        refine go24 t ?_
        refine o_aload X22 hx (hb hby at_53) rfl rfl ?_
        exact kt
      have F27 : Exa Z T22.heap b6 c_0 := (F20.keep Kc22)
      obtain ⟨cq26, kq26, q26a, q26b, q26c⟩ := isOf hZ rfl F27
      obtain ⟨_, _, ⟨T26, L26, k26, n26⟩, -, X26, ⟨Lc26, hQ26, l26, y26, z26⟩, st26⟩ := X22.virtualBack hx (y := y_4) (z := y_4) hown (mvT hZ (own_w hw 27 rfl)) (mvT hZ (own_w hw 28 rfl)) (notFace_of_selects (args := #[]) (mvT hZ (own_w hw 30 rfl))) (mvT hZ (own_w hw 30 rfl)) (mvT hZ (own_w hw 29 rfl)) (by decide) (backOf (W := 0) (rm5_0 l Z a0 hw [] b6 ((((0 : Int32) &&& (-2147483648 : Int32)) ||| (p1 &&& (2147483647 : Int32))) &&& (2147483647 : Int32)) (T22.heap) n0 Z23 Fw_22 (by rw [own_sign]; simp only [Int32.toBitVec_and, Int32.toBitVec_or, BitVec.getLsbD_and, BitVec.getLsbD_or, own_max 31 (by decide), own_min 31 (by decide), own_zero 31]; simp)) hZ (own_w hw 31 rfl) (own_w hw 3 rfl) (by decide) (by decide)) q26a q26c (g := (mkF m 55 #[vi p1, vi p2, vi (p1 &&& (2147483647 : Int32)), vi (0 : Int32), vi (0 : Int32), vr b6, .unset, .unset] [(.ref b6)])) rfl (by rw [hml]; rfl) (Steps.refl _) (argsL := []) (rest := []) (lenOf pd0_3 rfl) rfl (by show 2 * 0 + _ ≤ _; exact Nat.le_of_eq rfl) (hb hby at_55) (fun _ _ => ⟨rfl, rfl, (by decide : 1 + 0 ≤ _), (by decide : 5 + 0 ≤ _)⟩)
      dsimp only [Pt.U, Pt.locs, Pt.cells, Pt.slots] at X26 l26 y26 z26 st26 hQ26
      subst l26 y26 z26
      obtain ⟨rfl, Nq26, eh26⟩ := hQ26
      have N26 := Fr.app N22 Nq26
      have go28 : Go p e below s₁ F0 T26 (mkF m 58 #[vi p1, vi p2, vi (p1 &&& (2147483647 : Int32)), vi (0 : Int32), vi (0 : Int32), vr b6, .unset, .unset] [(.int (0 : Int32))]) := fun t k => go25 t (st26.trans k)
      have go29 : Go p e below s₁ F0 T26 (mkF m 64 #[vi p1, vi p2, vi (p1 &&& (2147483647 : Int32)), vi (0 : Int32), vi (0 : Int32), vr b6, .unset, .unset] [(.ref b6)]) := by
        intro t kt
        refine go28 t ?_
        refine o_iloadN X26 hx (hb hby at_58) rfl ?_
        refine o_icmpNo X26 hx (hb hby at_59) (teq (by decide : (0 : Int32) = (0 : Int32))).2 ?_
        refine o_aload X26 hx (hb hby at_62) rfl rfl ?_
        exact kt
      obtain ⟨cq30, kq30, q30a, q30b, q30c⟩ := isOf hZ eh26 F27
      obtain ⟨_, _, ⟨T30, L30, k30, n30⟩, -, X30, ⟨Lc30, hQ30, l30, y30, z30⟩, st30⟩ := X26.virtualBack hx (y := y_3) (z := y_3) hown (mvT hZ (own_w hw 32 rfl)) (mvT hZ (own_w hw 33 rfl)) (notFace_of_selects (args := #[]) (mvT hZ (own_w hw 35 rfl))) (mvT hZ (own_w hw 35 rfl)) (mvT hZ (own_w hw 34 rfl)) (by decide) (backOf (W := 0) (rm6 l Z a0 hw [] b6 ((((0 : Int32) &&& (-2147483648 : Int32)) ||| (p1 &&& (2147483647 : Int32))) &&& (2147483647 : Int32)) (T22.heap) n0 Z23 Fw_22) hZ (own_w hw 36 rfl) (own_w hw 3 rfl) (by decide) (by decide)) q30a q30c (g := (mkF m 64 #[vi p1, vi p2, vi (p1 &&& (2147483647 : Int32)), vi (0 : Int32), vi (0 : Int32), vr b6, .unset, .unset] [(.ref b6)])) rfl (by rw [hml]; rfl) (Steps.refl _) (argsL := []) (rest := []) (lenOf pd0_4 rfl) rfl (by show 2 * 0 + _ ≤ _; exact Nat.le_of_eq rfl) (hb hby at_64) (fun _ _ => ⟨rfl, eh26, (by decide : 1 + 0 ≤ _), (by decide : 5 + 0 ≤ _)⟩)
      dsimp only [Pt.U, Pt.locs, Pt.cells, Pt.slots] at X30 l30 y30 z30 st30 hQ30
      subst l30 y30 z30
      obtain ⟨rfl, Nq30, eh30⟩ := hQ30
      have N30 := Fr.app N26 Nq30
      have go31 : Go p e below s₁ F0 T30 (mkF m 67 #[vi p1, vi p2, vi (p1 &&& (2147483647 : Int32)), vi (0 : Int32), vi (0 : Int32), vr b6, .unset, .unset] [(.int (((((0 : Int32) &&& (-2147483648 : Int32)) ||| (p1 &&& (2147483647 : Int32))) &&& (2147483647 : Int32)) &&& (2147483647 : Int32)))]) := fun t k => go29 t (st30.trans k)
      have go33 : Go p e below s₁ F0 T30 (mkF m 68 #[vi p1, vi p2, vi (p1 &&& (2147483647 : Int32)), vi (0 : Int32), vi (0 : Int32), vr b6, .unset, .unset] [(.int (p1 &&& (2147483647 : Int32))), (.int (((((0 : Int32) &&& (-2147483648 : Int32)) ||| (p1 &&& (2147483647 : Int32))) &&& (2147483647 : Int32)) &&& (2147483647 : Int32)))]) := by
        intro t kt
        refine go31 t ?_
        refine o_iloadN X30 hx (hb hby at_67) rfl ?_
        exact kt
      have hd32 : (((((0 : Int32) &&& (-2147483648 : Int32)) ||| (p1 &&& (2147483647 : Int32))) &&& (2147483647 : Int32)) &&& (2147483647 : Int32)) = (p1 &&& (2147483647 : Int32)) := (own_bits _ _ fun i hi => by simp only [Int32.toBitVec_and, Int32.toBitVec_or, BitVec.getLsbD_and, BitVec.getLsbD_or, own_max i hi, own_min i hi, own_zero i]; by_cases q : i = 31 <;> simp [q])
      have go34 : Go p e below s₁ F0 T30 (mkF m 82 #[vi p1, vi p2, vi (p1 &&& (2147483647 : Int32)), vi (0 : Int32), vi (0 : Int32), vr b6, vi (1 : Int32), .unset] [(.int (0 : Int32)), (.ref b6)]) := by
        intro t kt
        refine go33 t ?_
        refine o_icmpNo X30 hx (hb hby at_68) (teq hd32).2 ?_
        refine o_iconst X30 hx (hb hby at_71) (v := 1) rfl ?_
        refine o_goto X30 hx (hb hby at_72) (pc' := 76) rfl (by decide) ?_
        refine o_istore X30 hx (hb hby at_76) (L' := #[vi p1, vi p2, vi (p1 &&& (2147483647 : Int32)), vi (0 : Int32), vi (0 : Int32), vr b6, vi (1 : Int32), .unset]) rfl ?_
        refine o_aload X30 hx (hb hby at_78) rfl rfl ?_
        refine o_iload X30 hx (hb hby at_80) rfl ?_
        exact kt
      obtain ⟨cq35, kq35, q35a, q35b, q35c⟩ := isOf hZ eh30 F27
      obtain ⟨_, _, ⟨T35, L35, k35, n35⟩, -, X35, ⟨Lc35, hQ35, l35, y35, z35⟩, st35⟩ := X30.virtualBack hx (y := y_2) (z := y_2) hown (mvT hZ (own_w hw 22 rfl)) (mvT hZ (own_w hw 23 rfl)) (notFace_of_selects (args := #[]) (mvT hZ (own_w hw 25 rfl))) (mvT hZ (own_w hw 25 rfl)) (mvT hZ (own_w hw 24 rfl)) (by decide) (backOf (W := 0) (rm4_0 l Z a0 hw [] b6 ((((0 : Int32) &&& (-2147483648 : Int32)) ||| (p1 &&& (2147483647 : Int32))) &&& (2147483647 : Int32)) (T22.heap) n0 Z23 F27 Fw_22 g_b6) hZ (own_w hw 26 rfl) (own_w hw 3 rfl) (by decide) (by decide)) q35a q35c (g := (mkF m 82 #[vi p1, vi p2, vi (p1 &&& (2147483647 : Int32)), vi (0 : Int32), vi (0 : Int32), vr b6, vi (1 : Int32), .unset] [(.int (0 : Int32)), (.ref b6)])) rfl (by rw [hml]; rfl) (Steps.refl _) (argsL := [(.int (0 : Int32))]) (rest := []) (lenOf pd0_2 rfl) rfl (by show 2 * 0 + _ ≤ _; exact Nat.le_of_eq rfl) (hb hby at_82) (fun _ _ => ⟨rfl, eh30, (by decide : 1 + 0 ≤ _), (by decide : 5 + 0 ≤ _)⟩)
      dsimp only [Pt.U, Pt.locs, Pt.cells, Pt.slots] at X35 l35 y35 z35 st35 hQ35
      subst l35 y35 z35
      obtain ⟨rfl, Nq35, Kc35, Fw_35⟩ := hQ35
      have N35 := Fr.app N30 Nq35
      have Z36 : n0 ≤ T35.heap.size := Nat.le_trans Z23 Kc35.1
      have go37 : Go p e below s₁ F0 T35 (mkF m 85 #[vi p1, vi p2, vi (p1 &&& (2147483647 : Int32)), vi (0 : Int32), vi (0 : Int32), vr b6, vi (1 : Int32), .unset] []) := fun t k => go34 t (st35.trans k)
      have go38 : Go p e below s₁ F0 T35 (mkF m 87 #[vi p1, vi p2, vi (p1 &&& (2147483647 : Int32)), vi (0 : Int32), vi (0 : Int32), vr b6, vi (1 : Int32), .unset] [(.ref b6)]) := by
        intro t kt
        refine go37 t ?_
        refine o_aload X35 hx (hb hby at_85) rfl rfl ?_
        exact kt
      have F40 : Exa Z T35.heap b6 c_0 := (F27.keep Kc35)
      obtain ⟨cq39, kq39, q39a, q39b, q39c⟩ := isOf hZ rfl F40
      obtain ⟨_, _, ⟨T39, L39, k39, n39⟩, -, X39, ⟨Lc39, hQ39, l39, y39, z39⟩, st39⟩ := X35.virtualBack hx (y := y_4) (z := y_4) hown (mvT hZ (own_w hw 27 rfl)) (mvT hZ (own_w hw 28 rfl)) (notFace_of_selects (args := #[]) (mvT hZ (own_w hw 30 rfl))) (mvT hZ (own_w hw 30 rfl)) (mvT hZ (own_w hw 29 rfl)) (by decide) (backOf (W := 0) (rm5_0 l Z a0 hw [] b6 (((((0 : Int32) &&& (-2147483648 : Int32)) ||| (p1 &&& (2147483647 : Int32))) &&& (2147483647 : Int32)) &&& (2147483647 : Int32)) (T35.heap) n0 Z36 Fw_35 (by rw [own_sign]; simp only [Int32.toBitVec_and, Int32.toBitVec_or, BitVec.getLsbD_and, BitVec.getLsbD_or, own_max 31 (by decide), own_min 31 (by decide), own_zero 31]; simp)) hZ (own_w hw 31 rfl) (own_w hw 3 rfl) (by decide) (by decide)) q39a q39c (g := (mkF m 87 #[vi p1, vi p2, vi (p1 &&& (2147483647 : Int32)), vi (0 : Int32), vi (0 : Int32), vr b6, vi (1 : Int32), .unset] [(.ref b6)])) rfl (by rw [hml]; rfl) (Steps.refl _) (argsL := []) (rest := []) (lenOf pd0_3 rfl) rfl (by show 2 * 0 + _ ≤ _; exact Nat.le_of_eq rfl) (hb hby at_87) (fun _ _ => ⟨rfl, rfl, (by decide : 1 + 0 ≤ _), (by decide : 5 + 0 ≤ _)⟩)
      dsimp only [Pt.U, Pt.locs, Pt.cells, Pt.slots] at X39 l39 y39 z39 st39 hQ39
      subst l39 y39 z39
      obtain ⟨rfl, Nq39, eh39⟩ := hQ39
      have N39 := Fr.app N35 Nq39
      have go41 : Go p e below s₁ F0 T39 (mkF m 90 #[vi p1, vi p2, vi (p1 &&& (2147483647 : Int32)), vi (0 : Int32), vi (0 : Int32), vr b6, vi (1 : Int32), .unset] [(.int (0 : Int32))]) := fun t k => go38 t (st39.trans k)
      have go42 : Go p e below s₁ F0 T39 (mkF m 97 #[vi p1, vi p2, vi (p1 &&& (2147483647 : Int32)), vi (0 : Int32), vi (0 : Int32), vr b6, vi (1 : Int32), .unset] [(.ref b6)]) := by
        intro t kt
        refine go41 t ?_
        refine o_iload X39 hx (hb hby at_90) rfl ?_
        refine o_icmpNo X39 hx (hb hby at_92) (teq (by decide : (0 : Int32) = (0 : Int32))).2 ?_
        refine o_aload X39 hx (hb hby at_95) rfl rfl ?_
        exact kt
      obtain ⟨cq43, kq43, q43a, q43b, q43c⟩ := isOf hZ eh39 F40
      obtain ⟨_, _, ⟨T43, L43, k43, n43⟩, -, X43, ⟨Lc43, hQ43, l43, y43, z43⟩, st43⟩ := X39.virtualBack hx (y := y_3) (z := y_3) hown (mvT hZ (own_w hw 32 rfl)) (mvT hZ (own_w hw 33 rfl)) (notFace_of_selects (args := #[]) (mvT hZ (own_w hw 35 rfl))) (mvT hZ (own_w hw 35 rfl)) (mvT hZ (own_w hw 34 rfl)) (by decide) (backOf (W := 0) (rm6 l Z a0 hw [] b6 (((((0 : Int32) &&& (-2147483648 : Int32)) ||| (p1 &&& (2147483647 : Int32))) &&& (2147483647 : Int32)) &&& (2147483647 : Int32)) (T35.heap) n0 Z36 Fw_35) hZ (own_w hw 36 rfl) (own_w hw 3 rfl) (by decide) (by decide)) q43a q43c (g := (mkF m 97 #[vi p1, vi p2, vi (p1 &&& (2147483647 : Int32)), vi (0 : Int32), vi (0 : Int32), vr b6, vi (1 : Int32), .unset] [(.ref b6)])) rfl (by rw [hml]; rfl) (Steps.refl _) (argsL := []) (rest := []) (lenOf pd0_4 rfl) rfl (by show 2 * 0 + _ ≤ _; exact Nat.le_of_eq rfl) (hb hby at_97) (fun _ _ => ⟨rfl, eh39, (by decide : 1 + 0 ≤ _), (by decide : 5 + 0 ≤ _)⟩)
      dsimp only [Pt.U, Pt.locs, Pt.cells, Pt.slots] at X43 l43 y43 z43 st43 hQ43
      subst l43 y43 z43
      obtain ⟨rfl, Nq43, eh43⟩ := hQ43
      have N43 := Fr.app N39 Nq43
      have go44 : Go p e below s₁ F0 T43 (mkF m 100 #[vi p1, vi p2, vi (p1 &&& (2147483647 : Int32)), vi (0 : Int32), vi (0 : Int32), vr b6, vi (1 : Int32), .unset] [(.int ((((((0 : Int32) &&& (-2147483648 : Int32)) ||| (p1 &&& (2147483647 : Int32))) &&& (2147483647 : Int32)) &&& (2147483647 : Int32)) &&& (2147483647 : Int32)))]) := fun t k => go42 t (st43.trans k)
      have go46 : Go p e below s₁ F0 T43 (mkF m 101 #[vi p1, vi p2, vi (p1 &&& (2147483647 : Int32)), vi (0 : Int32), vi (0 : Int32), vr b6, vi (1 : Int32), .unset] [(.int (p1 &&& (2147483647 : Int32))), (.int ((((((0 : Int32) &&& (-2147483648 : Int32)) ||| (p1 &&& (2147483647 : Int32))) &&& (2147483647 : Int32)) &&& (2147483647 : Int32)) &&& (2147483647 : Int32)))]) := by
        intro t kt
        refine go44 t ?_
        refine o_iloadN X43 hx (hb hby at_100) rfl ?_
        exact kt
      have hd45 : ((((((0 : Int32) &&& (-2147483648 : Int32)) ||| (p1 &&& (2147483647 : Int32))) &&& (2147483647 : Int32)) &&& (2147483647 : Int32)) &&& (2147483647 : Int32)) = (p1 &&& (2147483647 : Int32)) := (own_bits _ _ fun i hi => by simp only [Int32.toBitVec_and, Int32.toBitVec_or, BitVec.getLsbD_and, BitVec.getLsbD_or, own_max i hi, own_min i hi, own_zero i]; by_cases q : i = 31 <;> simp [q])
      have go47 : Go p e below s₁ F0 T43 (mkF m 126 #[vi p1, vi p2, vi (p1 &&& (2147483647 : Int32)), vi (0 : Int32), vi (0 : Int32), vr b6, vi (1 : Int32), vi (1 : Int32)] [(.int (1 : Int32))]) := by
        intro t kt
        refine go46 t ?_
        refine o_icmpNo X43 hx (hb hby at_101) (teq hd45).2 ?_
        refine o_iconst X43 hx (hb hby at_104) (v := 1) rfl ?_
        refine o_goto X43 hx (hb hby at_105) (pc' := 109) rfl (by decide) ?_
        refine o_istore X43 hx (hb hby at_109) (L' := #[vi p1, vi p2, vi (p1 &&& (2147483647 : Int32)), vi (0 : Int32), vi (0 : Int32), vr b6, vi (1 : Int32), vi (1 : Int32)]) rfl ?_
        refine o_iload X43 hx (hb hby at_111) rfl ?_
        refine o_ifNo X43 hx (hb hby at_113) ((if0 _ _).trans (feq (by decide : ¬ ((1 : Int32) = (0 : Int32)))).1) ?_
        refine o_iload X43 hx (hb hby at_116) rfl ?_
        refine o_ifNo X43 hx (hb hby at_118) ((if0 _ _).trans (feq (by decide : ¬ ((1 : Int32) = (0 : Int32)))).1) ?_
        refine o_iconst X43 hx (hb hby at_121) (v := 1) rfl ?_
        refine o_goto X43 hx (hb hby at_122) (pc' := 126) rfl (by decide) ?_
        exact kt
      obtain ⟨fs, hr, hrun, hended, hW, hsame⟩ := X43.leave (v := some (.int (1 : Int32))) (fun h => by rw [Bd.returns] at h; cases h)
      refine ⟨_, _, pre0 _ (go47 _ ?_), hrun, hended, _, _, rfl, ?_, ⟨_, rfl⟩, hW, hsame.mono (by decide) (by decide)⟩
      · skip
        exact retN X43 hx (t := .boolean) Bd.returns (by simp) (hb hby at_126) hr
      · show Q0 Z p1 p2 h0 n0 _ T43.heap _
        rw [eh43]
        exact ⟨rfl, N43⟩
    · skip
      have go48 : Go p e below s₁ F0 s₁ (mkF m 30 #[vi p1, vi p2, vi (p1 &&& (2147483647 : Int32)), vi (0 : Int32), vi (1 : Int32), .unset, .unset, .unset] []) := by
        intro t kt
        refine go3 t ?_
        refine o_ifNo X0 hx (hb hby at_20) ((if0 _ _).trans (feq hc20_4).1) ?_
        refine o_iconst X0 hx (hb hby at_23) (v := 1) rfl ?_
        refine o_goto X0 hx (hb hby at_24) (pc' := 28) rfl (by decide) ?_
        refine o_istore X0 hx (hb hby at_28) (L' := #[vi p1, vi p2, vi (p1 &&& (2147483647 : Int32)), vi (0 : Int32), vi (1 : Int32), .unset, .unset, .unset]) rfl ?_
        exact kt
      obtain ⟨T49, h49, X49, e49, E49, A49, D49, -, st49⟩ := newO X0 hx hZ hown (own_w hw 1 rfl) (own_w hw 2 rfl) (own_w hw 3 rfl) e0 (g := (mkF m 30 #[vi p1, vi p2, vi (p1 &&& (2147483647 : Int32)), vi (0 : Int32), vi (1 : Int32), .unset, .unset, .unset] [])) rfl (hb hby at_30) (by decide) (by decide)
      obtain ⟨b49, gz49⟩ : ∃ z, z = h0.size := ⟨_, rfl⟩
      rw [← gz49] at A49 D49 st49
      have g_b49 : n0 ≤ b49 := Nat.le_trans Z0 (Nat.le_of_eq gz49.symm)
      have Z50 : n0 ≤ h49.size := Nat.le_trans Z0 E49.1
      have F51 : Fld Z h49 b49 c_0 "key" "Ljava/lang/Object;" .null := D49 (Or.inr (own_w hw 11 rfl)) (ty := (.object "java/lang/Object")) (by decide)
      have F52 : Fld Z h49 b49 c_0 "value" "Ljava/lang/Object;" .null := D49 (Or.inl (own_w hw 13 rfl)) (ty := (.object "java/lang/Object")) (by decide)
      have F53 : Fld Z h49 b49 c_0 "weightAndHot" "I" (.int (0 : Int32)) := D49 (Or.inl (own_w hw 20 rfl)) (ty := .int) (by decide)
      have go54 : Go p e below s₁ F0 T49 (mkF m 33 #[vi p1, vi p2, vi (p1 &&& (2147483647 : Int32)), vi (0 : Int32), vi (1 : Int32), .unset, .unset, .unset] [(.ref b49)]) := fun t k => go48 t (st49 t k)
      have go55 : Go p e below s₁ F0 T49 (mkF m 36 #[vi p1, vi p2, vi (p1 &&& (2147483647 : Int32)), vi (0 : Int32), vi (1 : Int32), .unset, .unset, .unset] [.null, .null, (.ref b49), (.ref b49)]) := by
        intro t kt
        refine go54 t ?_
        refine o_dup X49 hx (hb hby at_33) rfl ?_
        refine o_null X49 hx (hb hby at_34) ?_
        refine o_null X49 hx (hb hby at_35) ?_
        exact kt
      obtain ⟨_, _, ⟨T56, L56, k56, n56⟩, -, X56, ⟨Lc56, hQ56, l56, y56, z56⟩, st56⟩ := X49.specialBack hx (y := y_0) rfl hown (mvT hZ (own_w hw 4 rfl)) (mvT hZ (own_w hw 5 rfl)) (mvT hZ (own_w hw 6 rfl)) (by decide) (backOf (W := 1) (rm1 l Z a0 hw [] b49 h49 n0 Z50 A49 F51 F52 F53 g_b49) hZ (own_w hw 6 rfl) (own_w hw 3 rfl) (by decide) (by decide)) (g := (mkF m 36 #[vi p1, vi p2, vi (p1 &&& (2147483647 : Int32)), vi (0 : Int32), vi (1 : Int32), .unset, .unset, .unset] [.null, .null, (.ref b49), (.ref b49)])) rfl (by rw [hml]; rfl) (Steps.refl _) (a := b49) (argsL := [.null, .null]) (rest := [(.ref b49)]) (lenOf pd0_0 rfl) rfl (by show 2 * 0 + _ ≤ _; exact Nat.le_of_eq rfl) (hb hby at_36) (fun _ _ => ⟨rfl, e49, (by decide : 1 + 0 ≤ _), (by decide : 5 + 0 ≤ _)⟩)
      dsimp only [Pt.U, Pt.locs, Pt.cells, Pt.slots] at X56 l56 y56 z56 st56 hQ56
      subst l56 y56 z56
      obtain ⟨rfl, Nq56, Kc56, E_56, Fw_56⟩ := hQ56
      have N56 := Fr.app N0 Nq56
      have Z57 : n0 ≤ T56.heap.size := Nat.le_trans Z50 Kc56.1
      have go58 : Go p e below s₁ F0 T56 (mkF m 39 #[vi p1, vi p2, vi (p1 &&& (2147483647 : Int32)), vi (0 : Int32), vi (1 : Int32), .unset, .unset, .unset] [(.ref b49)]) := fun t k => go55 t (st56.trans k)
      have go59 : Go p e below s₁ F0 T56 (mkF m 44 #[vi p1, vi p2, vi (p1 &&& (2147483647 : Int32)), vi (0 : Int32), vi (1 : Int32), vr b49, .unset, .unset] [(.int (p1 &&& (2147483647 : Int32))), (.ref b49)]) := by
        intro t kt
        refine go58 t ?_
        refine o_astore X56 hx (hb hby at_39) rfl (L' := #[vi p1, vi p2, vi (p1 &&& (2147483647 : Int32)), vi (0 : Int32), vi (1 : Int32), vr b49, .unset, .unset]) rfl ?_
        refine o_aload X56 hx (hb hby at_41) rfl rfl ?_
        refine o_iloadN X56 hx (hb hby at_43) rfl ?_
        exact kt
      obtain ⟨cq60, kq60, q60a, q60b, q60c⟩ := isOf hZ rfl E_56
      obtain ⟨_, _, ⟨T60, L60, k60, n60⟩, -, X60, ⟨Lc60, hQ60, l60, y60, z60⟩, st60⟩ := X56.virtualBack hx (y := y_1) (z := y_1) hown (mvT hZ (own_w hw 14 rfl)) (mvT hZ (own_w hw 15 rfl)) (notFace_of_selects (args := #[]) (mvT hZ (own_w hw 17 rfl))) (mvT hZ (own_w hw 17 rfl)) (mvT hZ (own_w hw 16 rfl)) (by decide) (backOf (W := 0) (rm3 l Z a0 hw [] b49 (p1 &&& (2147483647 : Int32)) (0 : Int32) (T56.heap) n0 Z57 E_56 Fw_56 g_b49) hZ (own_w hw 18 rfl) (own_w hw 3 rfl) (by decide) (by decide)) q60a q60c (g := (mkF m 44 #[vi p1, vi p2, vi (p1 &&& (2147483647 : Int32)), vi (0 : Int32), vi (1 : Int32), vr b49, .unset, .unset] [(.int (p1 &&& (2147483647 : Int32))), (.ref b49)])) rfl (by rw [hml]; rfl) (Steps.refl _) (argsL := [(.int (p1 &&& (2147483647 : Int32)))]) (rest := []) (lenOf pd0_1 rfl) rfl (by show 2 * 0 + _ ≤ _; exact Nat.le_of_eq rfl) (hb hby at_44) (fun _ _ => ⟨rfl, rfl, (by decide : 1 + 0 ≤ _), (by decide : 5 + 0 ≤ _)⟩)
      dsimp only [Pt.U, Pt.locs, Pt.cells, Pt.slots] at X60 l60 y60 z60 st60 hQ60
      subst l60 y60 z60
      obtain ⟨rfl, Nq60, Kc60, Fw_60⟩ := hQ60
      have N60 := Fr.app N56 Nq60
      have Z61 : n0 ≤ T60.heap.size := Nat.le_trans Z57 Kc60.1
      have go62 : Go p e below s₁ F0 T60 (mkF m 47 #[vi p1, vi p2, vi (p1 &&& (2147483647 : Int32)), vi (0 : Int32), vi (1 : Int32), vr b49, .unset, .unset] []) := fun t k => go59 t (st60.trans k)
      have F63 : Exa Z T60.heap b49 c_0 := (E_56.keep Kc60)
      have go64 : Go p e below s₁ F0 T60 (mkF m 50 #[vi p1, vi p2, vi (p1 &&& (2147483647 : Int32)), vi (0 : Int32), vi (1 : Int32), vr b49, .unset, .unset] [(.int (0 : Int32)), (.ref b49)]) := by
        intro t kt
        refine go62 t ?_
        refine o_aload X60 hx (hb hby at_47) rfl rfl ?_
        refine o_iloadN X60 hx (hb hby at_49) rfl ?_
        exact kt
      obtain ⟨cq65, kq65, q65a, q65b, q65c⟩ := isOf hZ rfl F63
      obtain ⟨_, _, ⟨T65, L65, k65, n65⟩, -, X65, ⟨Lc65, hQ65, l65, y65, z65⟩, st65⟩ := X60.virtualBack hx (y := y_2) (z := y_2) hown (mvT hZ (own_w hw 22 rfl)) (mvT hZ (own_w hw 23 rfl)) (notFace_of_selects (args := #[]) (mvT hZ (own_w hw 25 rfl))) (mvT hZ (own_w hw 25 rfl)) (mvT hZ (own_w hw 24 rfl)) (by decide) (backOf (W := 0) (rm4_0 l Z a0 hw [] b49 (((0 : Int32) &&& (-2147483648 : Int32)) ||| (p1 &&& (2147483647 : Int32))) (T60.heap) n0 Z61 F63 Fw_60 g_b49) hZ (own_w hw 26 rfl) (own_w hw 3 rfl) (by decide) (by decide)) q65a q65c (g := (mkF m 50 #[vi p1, vi p2, vi (p1 &&& (2147483647 : Int32)), vi (0 : Int32), vi (1 : Int32), vr b49, .unset, .unset] [(.int (0 : Int32)), (.ref b49)])) rfl (by rw [hml]; rfl) (Steps.refl _) (argsL := [(.int (0 : Int32))]) (rest := []) (lenOf pd0_2 rfl) rfl (by show 2 * 0 + _ ≤ _; exact Nat.le_of_eq rfl) (hb hby at_50) (fun _ _ => ⟨rfl, rfl, (by decide : 1 + 0 ≤ _), (by decide : 5 + 0 ≤ _)⟩)
      dsimp only [Pt.U, Pt.locs, Pt.cells, Pt.slots] at X65 l65 y65 z65 st65 hQ65
      subst l65 y65 z65
      obtain ⟨rfl, Nq65, Kc65, Fw_65⟩ := hQ65
      have N65 := Fr.app N60 Nq65
      have Z66 : n0 ≤ T65.heap.size := Nat.le_trans Z61 Kc65.1
      have go67 : Go p e below s₁ F0 T65 (mkF m 53 #[vi p1, vi p2, vi (p1 &&& (2147483647 : Int32)), vi (0 : Int32), vi (1 : Int32), vr b49, .unset, .unset] []) := fun t k => go64 t (st65.trans k)
      have go68 : Go p e below s₁ F0 T65 (mkF m 55 #[vi p1, vi p2, vi (p1 &&& (2147483647 : Int32)), vi (0 : Int32), vi (1 : Int32), vr b49, .unset, .unset] [(.ref b49)]) := by
        intro t kt
        refine go67 t ?_
        refine o_aload X65 hx (hb hby at_53) rfl rfl ?_
        exact kt
      have F70 : Exa Z T65.heap b49 c_0 := (F63.keep Kc65)
      obtain ⟨cq69, kq69, q69a, q69b, q69c⟩ := isOf hZ rfl F70
      obtain ⟨_, _, ⟨T69, L69, k69, n69⟩, -, X69, ⟨Lc69, hQ69, l69, y69, z69⟩, st69⟩ := X65.virtualBack hx (y := y_4) (z := y_4) hown (mvT hZ (own_w hw 27 rfl)) (mvT hZ (own_w hw 28 rfl)) (notFace_of_selects (args := #[]) (mvT hZ (own_w hw 30 rfl))) (mvT hZ (own_w hw 30 rfl)) (mvT hZ (own_w hw 29 rfl)) (by decide) (backOf (W := 0) (rm5_0 l Z a0 hw [] b49 ((((0 : Int32) &&& (-2147483648 : Int32)) ||| (p1 &&& (2147483647 : Int32))) &&& (2147483647 : Int32)) (T65.heap) n0 Z66 Fw_65 (by rw [own_sign]; simp only [Int32.toBitVec_and, Int32.toBitVec_or, BitVec.getLsbD_and, BitVec.getLsbD_or, own_max 31 (by decide), own_min 31 (by decide), own_zero 31]; simp)) hZ (own_w hw 31 rfl) (own_w hw 3 rfl) (by decide) (by decide)) q69a q69c (g := (mkF m 55 #[vi p1, vi p2, vi (p1 &&& (2147483647 : Int32)), vi (0 : Int32), vi (1 : Int32), vr b49, .unset, .unset] [(.ref b49)])) rfl (by rw [hml]; rfl) (Steps.refl _) (argsL := []) (rest := []) (lenOf pd0_3 rfl) rfl (by show 2 * 0 + _ ≤ _; exact Nat.le_of_eq rfl) (hb hby at_55) (fun _ _ => ⟨rfl, rfl, (by decide : 1 + 0 ≤ _), (by decide : 5 + 0 ≤ _)⟩)
      dsimp only [Pt.U, Pt.locs, Pt.cells, Pt.slots] at X69 l69 y69 z69 st69 hQ69
      subst l69 y69 z69
      obtain ⟨rfl, Nq69, eh69⟩ := hQ69
      have N69 := Fr.app N65 Nq69
      have go71 : Go p e below s₁ F0 T69 (mkF m 58 #[vi p1, vi p2, vi (p1 &&& (2147483647 : Int32)), vi (0 : Int32), vi (1 : Int32), vr b49, .unset, .unset] [(.int (0 : Int32))]) := fun t k => go68 t (st69.trans k)
      have go72 : Go p e below s₁ F0 T69 (mkF m 64 #[vi p1, vi p2, vi (p1 &&& (2147483647 : Int32)), vi (0 : Int32), vi (1 : Int32), vr b49, .unset, .unset] [(.ref b49)]) := by
        intro t kt
        refine go71 t ?_
        refine o_iloadN X69 hx (hb hby at_58) rfl ?_
        refine o_icmpNo X69 hx (hb hby at_59) (teq (by decide : (0 : Int32) = (0 : Int32))).2 ?_
        refine o_aload X69 hx (hb hby at_62) rfl rfl ?_
        exact kt
      obtain ⟨cq73, kq73, q73a, q73b, q73c⟩ := isOf hZ eh69 F70
      obtain ⟨_, _, ⟨T73, L73, k73, n73⟩, -, X73, ⟨Lc73, hQ73, l73, y73, z73⟩, st73⟩ := X69.virtualBack hx (y := y_3) (z := y_3) hown (mvT hZ (own_w hw 32 rfl)) (mvT hZ (own_w hw 33 rfl)) (notFace_of_selects (args := #[]) (mvT hZ (own_w hw 35 rfl))) (mvT hZ (own_w hw 35 rfl)) (mvT hZ (own_w hw 34 rfl)) (by decide) (backOf (W := 0) (rm6 l Z a0 hw [] b49 ((((0 : Int32) &&& (-2147483648 : Int32)) ||| (p1 &&& (2147483647 : Int32))) &&& (2147483647 : Int32)) (T65.heap) n0 Z66 Fw_65) hZ (own_w hw 36 rfl) (own_w hw 3 rfl) (by decide) (by decide)) q73a q73c (g := (mkF m 64 #[vi p1, vi p2, vi (p1 &&& (2147483647 : Int32)), vi (0 : Int32), vi (1 : Int32), vr b49, .unset, .unset] [(.ref b49)])) rfl (by rw [hml]; rfl) (Steps.refl _) (argsL := []) (rest := []) (lenOf pd0_4 rfl) rfl (by show 2 * 0 + _ ≤ _; exact Nat.le_of_eq rfl) (hb hby at_64) (fun _ _ => ⟨rfl, eh69, (by decide : 1 + 0 ≤ _), (by decide : 5 + 0 ≤ _)⟩)
      dsimp only [Pt.U, Pt.locs, Pt.cells, Pt.slots] at X73 l73 y73 z73 st73 hQ73
      subst l73 y73 z73
      obtain ⟨rfl, Nq73, eh73⟩ := hQ73
      have N73 := Fr.app N69 Nq73
      have go74 : Go p e below s₁ F0 T73 (mkF m 67 #[vi p1, vi p2, vi (p1 &&& (2147483647 : Int32)), vi (0 : Int32), vi (1 : Int32), vr b49, .unset, .unset] [(.int (((((0 : Int32) &&& (-2147483648 : Int32)) ||| (p1 &&& (2147483647 : Int32))) &&& (2147483647 : Int32)) &&& (2147483647 : Int32)))]) := fun t k => go72 t (st73.trans k)
      have go76 : Go p e below s₁ F0 T73 (mkF m 68 #[vi p1, vi p2, vi (p1 &&& (2147483647 : Int32)), vi (0 : Int32), vi (1 : Int32), vr b49, .unset, .unset] [(.int (p1 &&& (2147483647 : Int32))), (.int (((((0 : Int32) &&& (-2147483648 : Int32)) ||| (p1 &&& (2147483647 : Int32))) &&& (2147483647 : Int32)) &&& (2147483647 : Int32)))]) := by
        intro t kt
        refine go74 t ?_
        refine o_iloadN X73 hx (hb hby at_67) rfl ?_
        exact kt
      have hd75 : (((((0 : Int32) &&& (-2147483648 : Int32)) ||| (p1 &&& (2147483647 : Int32))) &&& (2147483647 : Int32)) &&& (2147483647 : Int32)) = (p1 &&& (2147483647 : Int32)) := (own_bits _ _ fun i hi => by simp only [Int32.toBitVec_and, Int32.toBitVec_or, BitVec.getLsbD_and, BitVec.getLsbD_or, own_max i hi, own_min i hi, own_zero i]; by_cases q : i = 31 <;> simp [q])
      have go77 : Go p e below s₁ F0 T73 (mkF m 82 #[vi p1, vi p2, vi (p1 &&& (2147483647 : Int32)), vi (0 : Int32), vi (1 : Int32), vr b49, vi (1 : Int32), .unset] [(.int (1 : Int32)), (.ref b49)]) := by
        intro t kt
        refine go76 t ?_
        refine o_icmpNo X73 hx (hb hby at_68) (teq hd75).2 ?_
        refine o_iconst X73 hx (hb hby at_71) (v := 1) rfl ?_
        refine o_goto X73 hx (hb hby at_72) (pc' := 76) rfl (by decide) ?_
        refine o_istore X73 hx (hb hby at_76) (L' := #[vi p1, vi p2, vi (p1 &&& (2147483647 : Int32)), vi (0 : Int32), vi (1 : Int32), vr b49, vi (1 : Int32), .unset]) rfl ?_
        refine o_aload X73 hx (hb hby at_78) rfl rfl ?_
        refine o_iload X73 hx (hb hby at_80) rfl ?_
        exact kt
      obtain ⟨cq78, kq78, q78a, q78b, q78c⟩ := isOf hZ eh73 F70
      obtain ⟨_, _, ⟨T78, L78, k78, n78⟩, -, X78, ⟨Lc78, hQ78, l78, y78, z78⟩, st78⟩ := X73.virtualBack hx (y := y_2) (z := y_2) hown (mvT hZ (own_w hw 22 rfl)) (mvT hZ (own_w hw 23 rfl)) (notFace_of_selects (args := #[]) (mvT hZ (own_w hw 25 rfl))) (mvT hZ (own_w hw 25 rfl)) (mvT hZ (own_w hw 24 rfl)) (by decide) (backOf (W := 0) (rm4_1 l Z a0 hw [] b49 ((((0 : Int32) &&& (-2147483648 : Int32)) ||| (p1 &&& (2147483647 : Int32))) &&& (2147483647 : Int32)) (T65.heap) n0 Z66 F70 Fw_65 g_b49) hZ (own_w hw 26 rfl) (own_w hw 3 rfl) (by decide) (by decide)) q78a q78c (g := (mkF m 82 #[vi p1, vi p2, vi (p1 &&& (2147483647 : Int32)), vi (0 : Int32), vi (1 : Int32), vr b49, vi (1 : Int32), .unset] [(.int (1 : Int32)), (.ref b49)])) rfl (by rw [hml]; rfl) (Steps.refl _) (argsL := [(.int (1 : Int32))]) (rest := []) (lenOf pd0_2 rfl) rfl (by show 2 * 0 + _ ≤ _; exact Nat.le_of_eq rfl) (hb hby at_82) (fun _ _ => ⟨rfl, eh73, (by decide : 1 + 0 ≤ _), (by decide : 5 + 0 ≤ _)⟩)
      dsimp only [Pt.U, Pt.locs, Pt.cells, Pt.slots] at X78 l78 y78 z78 st78 hQ78
      subst l78 y78 z78
      obtain ⟨rfl, Nq78, Kc78, Fw_78⟩ := hQ78
      have N78 := Fr.app N73 Nq78
      have Z79 : n0 ≤ T78.heap.size := Nat.le_trans Z66 Kc78.1
      have go80 : Go p e below s₁ F0 T78 (mkF m 85 #[vi p1, vi p2, vi (p1 &&& (2147483647 : Int32)), vi (0 : Int32), vi (1 : Int32), vr b49, vi (1 : Int32), .unset] []) := fun t k => go77 t (st78.trans k)
      have go81 : Go p e below s₁ F0 T78 (mkF m 87 #[vi p1, vi p2, vi (p1 &&& (2147483647 : Int32)), vi (0 : Int32), vi (1 : Int32), vr b49, vi (1 : Int32), .unset] [(.ref b49)]) := by
        intro t kt
        refine go80 t ?_
        refine o_aload X78 hx (hb hby at_85) rfl rfl ?_
        exact kt
      have F83 : Exa Z T78.heap b49 c_0 := (F70.keep Kc78)
      obtain ⟨cq82, kq82, q82a, q82b, q82c⟩ := isOf hZ rfl F83
      obtain ⟨_, _, ⟨T82, L82, k82, n82⟩, -, X82, ⟨Lc82, hQ82, l82, y82, z82⟩, st82⟩ := X78.virtualBack hx (y := y_4) (z := y_4) hown (mvT hZ (own_w hw 27 rfl)) (mvT hZ (own_w hw 28 rfl)) (notFace_of_selects (args := #[]) (mvT hZ (own_w hw 30 rfl))) (mvT hZ (own_w hw 30 rfl)) (mvT hZ (own_w hw 29 rfl)) (by decide) (backOf (W := 0) (rm5_1 l Z a0 hw [] b49 (((((0 : Int32) &&& (-2147483648 : Int32)) ||| (p1 &&& (2147483647 : Int32))) &&& (2147483647 : Int32)) ||| (-2147483648 : Int32)) (T78.heap) n0 Z79 Fw_78 (by rw [own_sign]; simp only [Int32.toBitVec_and, Int32.toBitVec_or, BitVec.getLsbD_and, BitVec.getLsbD_or, own_max 31 (by decide), own_min 31 (by decide), own_zero 31]; simp)) hZ (own_w hw 31 rfl) (own_w hw 3 rfl) (by decide) (by decide)) q82a q82c (g := (mkF m 87 #[vi p1, vi p2, vi (p1 &&& (2147483647 : Int32)), vi (0 : Int32), vi (1 : Int32), vr b49, vi (1 : Int32), .unset] [(.ref b49)])) rfl (by rw [hml]; rfl) (Steps.refl _) (argsL := []) (rest := []) (lenOf pd0_3 rfl) rfl (by show 2 * 0 + _ ≤ _; exact Nat.le_of_eq rfl) (hb hby at_87) (fun _ _ => ⟨rfl, rfl, (by decide : 1 + 0 ≤ _), (by decide : 5 + 0 ≤ _)⟩)
      dsimp only [Pt.U, Pt.locs, Pt.cells, Pt.slots] at X82 l82 y82 z82 st82 hQ82
      subst l82 y82 z82
      obtain ⟨rfl, Nq82, eh82⟩ := hQ82
      have N82 := Fr.app N78 Nq82
      have go84 : Go p e below s₁ F0 T82 (mkF m 90 #[vi p1, vi p2, vi (p1 &&& (2147483647 : Int32)), vi (0 : Int32), vi (1 : Int32), vr b49, vi (1 : Int32), .unset] [(.int (1 : Int32))]) := fun t k => go81 t (st82.trans k)
      have go85 : Go p e below s₁ F0 T82 (mkF m 97 #[vi p1, vi p2, vi (p1 &&& (2147483647 : Int32)), vi (0 : Int32), vi (1 : Int32), vr b49, vi (1 : Int32), .unset] [(.ref b49)]) := by
        intro t kt
        refine go84 t ?_
        refine o_iload X82 hx (hb hby at_90) rfl ?_
        refine o_icmpNo X82 hx (hb hby at_92) (teq (by decide : (1 : Int32) = (1 : Int32))).2 ?_
        refine o_aload X82 hx (hb hby at_95) rfl rfl ?_
        exact kt
      obtain ⟨cq86, kq86, q86a, q86b, q86c⟩ := isOf hZ eh82 F83
      obtain ⟨_, _, ⟨T86, L86, k86, n86⟩, -, X86, ⟨Lc86, hQ86, l86, y86, z86⟩, st86⟩ := X82.virtualBack hx (y := y_3) (z := y_3) hown (mvT hZ (own_w hw 32 rfl)) (mvT hZ (own_w hw 33 rfl)) (notFace_of_selects (args := #[]) (mvT hZ (own_w hw 35 rfl))) (mvT hZ (own_w hw 35 rfl)) (mvT hZ (own_w hw 34 rfl)) (by decide) (backOf (W := 0) (rm6 l Z a0 hw [] b49 (((((0 : Int32) &&& (-2147483648 : Int32)) ||| (p1 &&& (2147483647 : Int32))) &&& (2147483647 : Int32)) ||| (-2147483648 : Int32)) (T78.heap) n0 Z79 Fw_78) hZ (own_w hw 36 rfl) (own_w hw 3 rfl) (by decide) (by decide)) q86a q86c (g := (mkF m 97 #[vi p1, vi p2, vi (p1 &&& (2147483647 : Int32)), vi (0 : Int32), vi (1 : Int32), vr b49, vi (1 : Int32), .unset] [(.ref b49)])) rfl (by rw [hml]; rfl) (Steps.refl _) (argsL := []) (rest := []) (lenOf pd0_4 rfl) rfl (by show 2 * 0 + _ ≤ _; exact Nat.le_of_eq rfl) (hb hby at_97) (fun _ _ => ⟨rfl, eh82, (by decide : 1 + 0 ≤ _), (by decide : 5 + 0 ≤ _)⟩)
      dsimp only [Pt.U, Pt.locs, Pt.cells, Pt.slots] at X86 l86 y86 z86 st86 hQ86
      subst l86 y86 z86
      obtain ⟨rfl, Nq86, eh86⟩ := hQ86
      have N86 := Fr.app N82 Nq86
      have go87 : Go p e below s₁ F0 T86 (mkF m 100 #[vi p1, vi p2, vi (p1 &&& (2147483647 : Int32)), vi (0 : Int32), vi (1 : Int32), vr b49, vi (1 : Int32), .unset] [(.int ((((((0 : Int32) &&& (-2147483648 : Int32)) ||| (p1 &&& (2147483647 : Int32))) &&& (2147483647 : Int32)) ||| (-2147483648 : Int32)) &&& (2147483647 : Int32)))]) := fun t k => go85 t (st86.trans k)
      have go89 : Go p e below s₁ F0 T86 (mkF m 101 #[vi p1, vi p2, vi (p1 &&& (2147483647 : Int32)), vi (0 : Int32), vi (1 : Int32), vr b49, vi (1 : Int32), .unset] [(.int (p1 &&& (2147483647 : Int32))), (.int ((((((0 : Int32) &&& (-2147483648 : Int32)) ||| (p1 &&& (2147483647 : Int32))) &&& (2147483647 : Int32)) ||| (-2147483648 : Int32)) &&& (2147483647 : Int32)))]) := by
        intro t kt
        refine go87 t ?_
        refine o_iloadN X86 hx (hb hby at_100) rfl ?_
        exact kt
      have hd88 : ((((((0 : Int32) &&& (-2147483648 : Int32)) ||| (p1 &&& (2147483647 : Int32))) &&& (2147483647 : Int32)) ||| (-2147483648 : Int32)) &&& (2147483647 : Int32)) = (p1 &&& (2147483647 : Int32)) := (own_bits _ _ fun i hi => by simp only [Int32.toBitVec_and, Int32.toBitVec_or, BitVec.getLsbD_and, BitVec.getLsbD_or, own_max i hi, own_min i hi, own_zero i]; by_cases q : i = 31 <;> simp [q])
      have go90 : Go p e below s₁ F0 T86 (mkF m 126 #[vi p1, vi p2, vi (p1 &&& (2147483647 : Int32)), vi (0 : Int32), vi (1 : Int32), vr b49, vi (1 : Int32), vi (1 : Int32)] [(.int (1 : Int32))]) := by
        intro t kt
        refine go89 t ?_
        refine o_icmpNo X86 hx (hb hby at_101) (teq hd88).2 ?_
        refine o_iconst X86 hx (hb hby at_104) (v := 1) rfl ?_
        refine o_goto X86 hx (hb hby at_105) (pc' := 109) rfl (by decide) ?_
        refine o_istore X86 hx (hb hby at_109) (L' := #[vi p1, vi p2, vi (p1 &&& (2147483647 : Int32)), vi (0 : Int32), vi (1 : Int32), vr b49, vi (1 : Int32), vi (1 : Int32)]) rfl ?_
        refine o_iload X86 hx (hb hby at_111) rfl ?_
        refine o_ifNo X86 hx (hb hby at_113) ((if0 _ _).trans (feq (by decide : ¬ ((1 : Int32) = (0 : Int32)))).1) ?_
        refine o_iload X86 hx (hb hby at_116) rfl ?_
        refine o_ifNo X86 hx (hb hby at_118) ((if0 _ _).trans (feq (by decide : ¬ ((1 : Int32) = (0 : Int32)))).1) ?_
        refine o_iconst X86 hx (hb hby at_121) (v := 1) rfl ?_
        refine o_goto X86 hx (hb hby at_122) (pc' := 126) rfl (by decide) ?_
        exact kt
      obtain ⟨fs, hr, hrun, hended, hW, hsame⟩ := X86.leave (v := some (.int (1 : Int32))) (fun h => by rw [Bd.returns] at h; cases h)
      refine ⟨_, _, pre0 _ (go90 _ ?_), hrun, hended, _, _, rfl, ?_, ⟨_, rfl⟩, hW, hsame.mono (by decide) (by decide)⟩
      · skip
        exact retN X86 hx (t := .boolean) Bd.returns (by simp) (hb hby at_126) hr
      · show Q0 Z p1 p2 h0 n0 _ T86.heap _
        rw [eh86]
        exact ⟨rfl, N86⟩
  · skip
    have go91 : Go p e below s₁ F0 s₁ (mkF m 20 #[vi p1, vi p2, vi (p1 &&& (2147483647 : Int32)), vi (1 : Int32), .unset, .unset, .unset, .unset] [(.int (p2 &&& (2 : Int32)))]) := by
      intro t kt
      refine go1 t ?_
      refine o_ifNo X0 hx (hb hby at_8) ((if0 _ _).trans (feq hc8_2).1) ?_
      refine o_iconst X0 hx (hb hby at_11) (v := 1) rfl ?_
      refine o_goto X0 hx (hb hby at_12) (pc' := 16) rfl (by decide) ?_
      refine o_istoreN X0 hx (hb hby at_16) (L' := #[vi p1, vi p2, vi (p1 &&& (2147483647 : Int32)), vi (1 : Int32), .unset, .unset, .unset, .unset]) rfl ?_
      refine o_iloadN X0 hx (hb hby at_17) rfl ?_
      refine o_iconst X0 hx (hb hby at_18) (v := 2) rfl ?_
      refine o_iand X0 hx (hb hby at_19) ?_
      exact kt
    by_cases hc20_92 : (p2 &&& (2 : Int32)) = (0 : Int32)
    · skip
      have go93 : Go p e below s₁ F0 s₁ (mkF m 30 #[vi p1, vi p2, vi (p1 &&& (2147483647 : Int32)), vi (1 : Int32), vi (0 : Int32), .unset, .unset, .unset] []) := by
        intro t kt
        refine go91 t ?_
        refine o_ifYes X0 hx (hb hby at_20) (pc' := 27) rfl (by decide) ((if0 _ _).trans (teq hc20_92).1) ?_
        refine o_iconst X0 hx (hb hby at_27) (v := 0) rfl ?_
        refine o_istore X0 hx (hb hby at_28) (L' := #[vi p1, vi p2, vi (p1 &&& (2147483647 : Int32)), vi (1 : Int32), vi (0 : Int32), .unset, .unset, .unset]) rfl ?_
        exact kt
      obtain ⟨T94, h94, X94, e94, E94, A94, D94, -, st94⟩ := newO X0 hx hZ hown (own_w hw 1 rfl) (own_w hw 2 rfl) (own_w hw 3 rfl) e0 (g := (mkF m 30 #[vi p1, vi p2, vi (p1 &&& (2147483647 : Int32)), vi (1 : Int32), vi (0 : Int32), .unset, .unset, .unset] [])) rfl (hb hby at_30) (by decide) (by decide)
      obtain ⟨b94, gz94⟩ : ∃ z, z = h0.size := ⟨_, rfl⟩
      rw [← gz94] at A94 D94 st94
      have g_b94 : n0 ≤ b94 := Nat.le_trans Z0 (Nat.le_of_eq gz94.symm)
      have Z95 : n0 ≤ h94.size := Nat.le_trans Z0 E94.1
      have F96 : Fld Z h94 b94 c_0 "key" "Ljava/lang/Object;" .null := D94 (Or.inr (own_w hw 11 rfl)) (ty := (.object "java/lang/Object")) (by decide)
      have F97 : Fld Z h94 b94 c_0 "value" "Ljava/lang/Object;" .null := D94 (Or.inl (own_w hw 13 rfl)) (ty := (.object "java/lang/Object")) (by decide)
      have F98 : Fld Z h94 b94 c_0 "weightAndHot" "I" (.int (0 : Int32)) := D94 (Or.inl (own_w hw 20 rfl)) (ty := .int) (by decide)
      have go99 : Go p e below s₁ F0 T94 (mkF m 33 #[vi p1, vi p2, vi (p1 &&& (2147483647 : Int32)), vi (1 : Int32), vi (0 : Int32), .unset, .unset, .unset] [(.ref b94)]) := fun t k => go93 t (st94 t k)
      have go100 : Go p e below s₁ F0 T94 (mkF m 36 #[vi p1, vi p2, vi (p1 &&& (2147483647 : Int32)), vi (1 : Int32), vi (0 : Int32), .unset, .unset, .unset] [.null, .null, (.ref b94), (.ref b94)]) := by
        intro t kt
        refine go99 t ?_
        refine o_dup X94 hx (hb hby at_33) rfl ?_
        refine o_null X94 hx (hb hby at_34) ?_
        refine o_null X94 hx (hb hby at_35) ?_
        exact kt
      obtain ⟨_, _, ⟨T101, L101, k101, n101⟩, -, X101, ⟨Lc101, hQ101, l101, y101, z101⟩, st101⟩ := X94.specialBack hx (y := y_0) rfl hown (mvT hZ (own_w hw 4 rfl)) (mvT hZ (own_w hw 5 rfl)) (mvT hZ (own_w hw 6 rfl)) (by decide) (backOf (W := 1) (rm1 l Z a0 hw [] b94 h94 n0 Z95 A94 F96 F97 F98 g_b94) hZ (own_w hw 6 rfl) (own_w hw 3 rfl) (by decide) (by decide)) (g := (mkF m 36 #[vi p1, vi p2, vi (p1 &&& (2147483647 : Int32)), vi (1 : Int32), vi (0 : Int32), .unset, .unset, .unset] [.null, .null, (.ref b94), (.ref b94)])) rfl (by rw [hml]; rfl) (Steps.refl _) (a := b94) (argsL := [.null, .null]) (rest := [(.ref b94)]) (lenOf pd0_0 rfl) rfl (by show 2 * 0 + _ ≤ _; exact Nat.le_of_eq rfl) (hb hby at_36) (fun _ _ => ⟨rfl, e94, (by decide : 1 + 0 ≤ _), (by decide : 5 + 0 ≤ _)⟩)
      dsimp only [Pt.U, Pt.locs, Pt.cells, Pt.slots] at X101 l101 y101 z101 st101 hQ101
      subst l101 y101 z101
      obtain ⟨rfl, Nq101, Kc101, E_101, Fw_101⟩ := hQ101
      have N101 := Fr.app N0 Nq101
      have Z102 : n0 ≤ T101.heap.size := Nat.le_trans Z95 Kc101.1
      have go103 : Go p e below s₁ F0 T101 (mkF m 39 #[vi p1, vi p2, vi (p1 &&& (2147483647 : Int32)), vi (1 : Int32), vi (0 : Int32), .unset, .unset, .unset] [(.ref b94)]) := fun t k => go100 t (st101.trans k)
      have go104 : Go p e below s₁ F0 T101 (mkF m 44 #[vi p1, vi p2, vi (p1 &&& (2147483647 : Int32)), vi (1 : Int32), vi (0 : Int32), vr b94, .unset, .unset] [(.int (p1 &&& (2147483647 : Int32))), (.ref b94)]) := by
        intro t kt
        refine go103 t ?_
        refine o_astore X101 hx (hb hby at_39) rfl (L' := #[vi p1, vi p2, vi (p1 &&& (2147483647 : Int32)), vi (1 : Int32), vi (0 : Int32), vr b94, .unset, .unset]) rfl ?_
        refine o_aload X101 hx (hb hby at_41) rfl rfl ?_
        refine o_iloadN X101 hx (hb hby at_43) rfl ?_
        exact kt
      obtain ⟨cq105, kq105, q105a, q105b, q105c⟩ := isOf hZ rfl E_101
      obtain ⟨_, _, ⟨T105, L105, k105, n105⟩, -, X105, ⟨Lc105, hQ105, l105, y105, z105⟩, st105⟩ := X101.virtualBack hx (y := y_1) (z := y_1) hown (mvT hZ (own_w hw 14 rfl)) (mvT hZ (own_w hw 15 rfl)) (notFace_of_selects (args := #[]) (mvT hZ (own_w hw 17 rfl))) (mvT hZ (own_w hw 17 rfl)) (mvT hZ (own_w hw 16 rfl)) (by decide) (backOf (W := 0) (rm3 l Z a0 hw [] b94 (p1 &&& (2147483647 : Int32)) (0 : Int32) (T101.heap) n0 Z102 E_101 Fw_101 g_b94) hZ (own_w hw 18 rfl) (own_w hw 3 rfl) (by decide) (by decide)) q105a q105c (g := (mkF m 44 #[vi p1, vi p2, vi (p1 &&& (2147483647 : Int32)), vi (1 : Int32), vi (0 : Int32), vr b94, .unset, .unset] [(.int (p1 &&& (2147483647 : Int32))), (.ref b94)])) rfl (by rw [hml]; rfl) (Steps.refl _) (argsL := [(.int (p1 &&& (2147483647 : Int32)))]) (rest := []) (lenOf pd0_1 rfl) rfl (by show 2 * 0 + _ ≤ _; exact Nat.le_of_eq rfl) (hb hby at_44) (fun _ _ => ⟨rfl, rfl, (by decide : 1 + 0 ≤ _), (by decide : 5 + 0 ≤ _)⟩)
      dsimp only [Pt.U, Pt.locs, Pt.cells, Pt.slots] at X105 l105 y105 z105 st105 hQ105
      subst l105 y105 z105
      obtain ⟨rfl, Nq105, Kc105, Fw_105⟩ := hQ105
      have N105 := Fr.app N101 Nq105
      have Z106 : n0 ≤ T105.heap.size := Nat.le_trans Z102 Kc105.1
      have go107 : Go p e below s₁ F0 T105 (mkF m 47 #[vi p1, vi p2, vi (p1 &&& (2147483647 : Int32)), vi (1 : Int32), vi (0 : Int32), vr b94, .unset, .unset] []) := fun t k => go104 t (st105.trans k)
      have F108 : Exa Z T105.heap b94 c_0 := (E_101.keep Kc105)
      have go109 : Go p e below s₁ F0 T105 (mkF m 50 #[vi p1, vi p2, vi (p1 &&& (2147483647 : Int32)), vi (1 : Int32), vi (0 : Int32), vr b94, .unset, .unset] [(.int (1 : Int32)), (.ref b94)]) := by
        intro t kt
        refine go107 t ?_
        refine o_aload X105 hx (hb hby at_47) rfl rfl ?_
        refine o_iloadN X105 hx (hb hby at_49) rfl ?_
        exact kt
      obtain ⟨cq110, kq110, q110a, q110b, q110c⟩ := isOf hZ rfl F108
      obtain ⟨_, _, ⟨T110, L110, k110, n110⟩, -, X110, ⟨Lc110, hQ110, l110, y110, z110⟩, st110⟩ := X105.virtualBack hx (y := y_2) (z := y_2) hown (mvT hZ (own_w hw 22 rfl)) (mvT hZ (own_w hw 23 rfl)) (notFace_of_selects (args := #[]) (mvT hZ (own_w hw 25 rfl))) (mvT hZ (own_w hw 25 rfl)) (mvT hZ (own_w hw 24 rfl)) (by decide) (backOf (W := 0) (rm4_1 l Z a0 hw [] b94 (((0 : Int32) &&& (-2147483648 : Int32)) ||| (p1 &&& (2147483647 : Int32))) (T105.heap) n0 Z106 F108 Fw_105 g_b94) hZ (own_w hw 26 rfl) (own_w hw 3 rfl) (by decide) (by decide)) q110a q110c (g := (mkF m 50 #[vi p1, vi p2, vi (p1 &&& (2147483647 : Int32)), vi (1 : Int32), vi (0 : Int32), vr b94, .unset, .unset] [(.int (1 : Int32)), (.ref b94)])) rfl (by rw [hml]; rfl) (Steps.refl _) (argsL := [(.int (1 : Int32))]) (rest := []) (lenOf pd0_2 rfl) rfl (by show 2 * 0 + _ ≤ _; exact Nat.le_of_eq rfl) (hb hby at_50) (fun _ _ => ⟨rfl, rfl, (by decide : 1 + 0 ≤ _), (by decide : 5 + 0 ≤ _)⟩)
      dsimp only [Pt.U, Pt.locs, Pt.cells, Pt.slots] at X110 l110 y110 z110 st110 hQ110
      subst l110 y110 z110
      obtain ⟨rfl, Nq110, Kc110, Fw_110⟩ := hQ110
      have N110 := Fr.app N105 Nq110
      have Z111 : n0 ≤ T110.heap.size := Nat.le_trans Z106 Kc110.1
      have go112 : Go p e below s₁ F0 T110 (mkF m 53 #[vi p1, vi p2, vi (p1 &&& (2147483647 : Int32)), vi (1 : Int32), vi (0 : Int32), vr b94, .unset, .unset] []) := fun t k => go109 t (st110.trans k)
      have go113 : Go p e below s₁ F0 T110 (mkF m 55 #[vi p1, vi p2, vi (p1 &&& (2147483647 : Int32)), vi (1 : Int32), vi (0 : Int32), vr b94, .unset, .unset] [(.ref b94)]) := by
        intro t kt
        refine go112 t ?_
        refine o_aload X110 hx (hb hby at_53) rfl rfl ?_
        exact kt
      have F115 : Exa Z T110.heap b94 c_0 := (F108.keep Kc110)
      obtain ⟨cq114, kq114, q114a, q114b, q114c⟩ := isOf hZ rfl F115
      obtain ⟨_, _, ⟨T114, L114, k114, n114⟩, -, X114, ⟨Lc114, hQ114, l114, y114, z114⟩, st114⟩ := X110.virtualBack hx (y := y_4) (z := y_4) hown (mvT hZ (own_w hw 27 rfl)) (mvT hZ (own_w hw 28 rfl)) (notFace_of_selects (args := #[]) (mvT hZ (own_w hw 30 rfl))) (mvT hZ (own_w hw 30 rfl)) (mvT hZ (own_w hw 29 rfl)) (by decide) (backOf (W := 0) (rm5_1 l Z a0 hw [] b94 ((((0 : Int32) &&& (-2147483648 : Int32)) ||| (p1 &&& (2147483647 : Int32))) ||| (-2147483648 : Int32)) (T110.heap) n0 Z111 Fw_110 (by rw [own_sign]; simp only [Int32.toBitVec_and, Int32.toBitVec_or, BitVec.getLsbD_and, BitVec.getLsbD_or, own_max 31 (by decide), own_min 31 (by decide), own_zero 31]; simp)) hZ (own_w hw 31 rfl) (own_w hw 3 rfl) (by decide) (by decide)) q114a q114c (g := (mkF m 55 #[vi p1, vi p2, vi (p1 &&& (2147483647 : Int32)), vi (1 : Int32), vi (0 : Int32), vr b94, .unset, .unset] [(.ref b94)])) rfl (by rw [hml]; rfl) (Steps.refl _) (argsL := []) (rest := []) (lenOf pd0_3 rfl) rfl (by show 2 * 0 + _ ≤ _; exact Nat.le_of_eq rfl) (hb hby at_55) (fun _ _ => ⟨rfl, rfl, (by decide : 1 + 0 ≤ _), (by decide : 5 + 0 ≤ _)⟩)
      dsimp only [Pt.U, Pt.locs, Pt.cells, Pt.slots] at X114 l114 y114 z114 st114 hQ114
      subst l114 y114 z114
      obtain ⟨rfl, Nq114, eh114⟩ := hQ114
      have N114 := Fr.app N110 Nq114
      have go116 : Go p e below s₁ F0 T114 (mkF m 58 #[vi p1, vi p2, vi (p1 &&& (2147483647 : Int32)), vi (1 : Int32), vi (0 : Int32), vr b94, .unset, .unset] [(.int (1 : Int32))]) := fun t k => go113 t (st114.trans k)
      have go117 : Go p e below s₁ F0 T114 (mkF m 64 #[vi p1, vi p2, vi (p1 &&& (2147483647 : Int32)), vi (1 : Int32), vi (0 : Int32), vr b94, .unset, .unset] [(.ref b94)]) := by
        intro t kt
        refine go116 t ?_
        refine o_iloadN X114 hx (hb hby at_58) rfl ?_
        refine o_icmpNo X114 hx (hb hby at_59) (teq (by decide : (1 : Int32) = (1 : Int32))).2 ?_
        refine o_aload X114 hx (hb hby at_62) rfl rfl ?_
        exact kt
      obtain ⟨cq118, kq118, q118a, q118b, q118c⟩ := isOf hZ eh114 F115
      obtain ⟨_, _, ⟨T118, L118, k118, n118⟩, -, X118, ⟨Lc118, hQ118, l118, y118, z118⟩, st118⟩ := X114.virtualBack hx (y := y_3) (z := y_3) hown (mvT hZ (own_w hw 32 rfl)) (mvT hZ (own_w hw 33 rfl)) (notFace_of_selects (args := #[]) (mvT hZ (own_w hw 35 rfl))) (mvT hZ (own_w hw 35 rfl)) (mvT hZ (own_w hw 34 rfl)) (by decide) (backOf (W := 0) (rm6 l Z a0 hw [] b94 ((((0 : Int32) &&& (-2147483648 : Int32)) ||| (p1 &&& (2147483647 : Int32))) ||| (-2147483648 : Int32)) (T110.heap) n0 Z111 Fw_110) hZ (own_w hw 36 rfl) (own_w hw 3 rfl) (by decide) (by decide)) q118a q118c (g := (mkF m 64 #[vi p1, vi p2, vi (p1 &&& (2147483647 : Int32)), vi (1 : Int32), vi (0 : Int32), vr b94, .unset, .unset] [(.ref b94)])) rfl (by rw [hml]; rfl) (Steps.refl _) (argsL := []) (rest := []) (lenOf pd0_4 rfl) rfl (by show 2 * 0 + _ ≤ _; exact Nat.le_of_eq rfl) (hb hby at_64) (fun _ _ => ⟨rfl, eh114, (by decide : 1 + 0 ≤ _), (by decide : 5 + 0 ≤ _)⟩)
      dsimp only [Pt.U, Pt.locs, Pt.cells, Pt.slots] at X118 l118 y118 z118 st118 hQ118
      subst l118 y118 z118
      obtain ⟨rfl, Nq118, eh118⟩ := hQ118
      have N118 := Fr.app N114 Nq118
      have go119 : Go p e below s₁ F0 T118 (mkF m 67 #[vi p1, vi p2, vi (p1 &&& (2147483647 : Int32)), vi (1 : Int32), vi (0 : Int32), vr b94, .unset, .unset] [(.int (((((0 : Int32) &&& (-2147483648 : Int32)) ||| (p1 &&& (2147483647 : Int32))) ||| (-2147483648 : Int32)) &&& (2147483647 : Int32)))]) := fun t k => go117 t (st118.trans k)
      have go121 : Go p e below s₁ F0 T118 (mkF m 68 #[vi p1, vi p2, vi (p1 &&& (2147483647 : Int32)), vi (1 : Int32), vi (0 : Int32), vr b94, .unset, .unset] [(.int (p1 &&& (2147483647 : Int32))), (.int (((((0 : Int32) &&& (-2147483648 : Int32)) ||| (p1 &&& (2147483647 : Int32))) ||| (-2147483648 : Int32)) &&& (2147483647 : Int32)))]) := by
        intro t kt
        refine go119 t ?_
        refine o_iloadN X118 hx (hb hby at_67) rfl ?_
        exact kt
      have hd120 : (((((0 : Int32) &&& (-2147483648 : Int32)) ||| (p1 &&& (2147483647 : Int32))) ||| (-2147483648 : Int32)) &&& (2147483647 : Int32)) = (p1 &&& (2147483647 : Int32)) := (own_bits _ _ fun i hi => by simp only [Int32.toBitVec_and, Int32.toBitVec_or, BitVec.getLsbD_and, BitVec.getLsbD_or, own_max i hi, own_min i hi, own_zero i]; by_cases q : i = 31 <;> simp [q])
      have go122 : Go p e below s₁ F0 T118 (mkF m 82 #[vi p1, vi p2, vi (p1 &&& (2147483647 : Int32)), vi (1 : Int32), vi (0 : Int32), vr b94, vi (1 : Int32), .unset] [(.int (0 : Int32)), (.ref b94)]) := by
        intro t kt
        refine go121 t ?_
        refine o_icmpNo X118 hx (hb hby at_68) (teq hd120).2 ?_
        refine o_iconst X118 hx (hb hby at_71) (v := 1) rfl ?_
        refine o_goto X118 hx (hb hby at_72) (pc' := 76) rfl (by decide) ?_
        refine o_istore X118 hx (hb hby at_76) (L' := #[vi p1, vi p2, vi (p1 &&& (2147483647 : Int32)), vi (1 : Int32), vi (0 : Int32), vr b94, vi (1 : Int32), .unset]) rfl ?_
        refine o_aload X118 hx (hb hby at_78) rfl rfl ?_
        refine o_iload X118 hx (hb hby at_80) rfl ?_
        exact kt
      obtain ⟨cq123, kq123, q123a, q123b, q123c⟩ := isOf hZ eh118 F115
      obtain ⟨_, _, ⟨T123, L123, k123, n123⟩, -, X123, ⟨Lc123, hQ123, l123, y123, z123⟩, st123⟩ := X118.virtualBack hx (y := y_2) (z := y_2) hown (mvT hZ (own_w hw 22 rfl)) (mvT hZ (own_w hw 23 rfl)) (notFace_of_selects (args := #[]) (mvT hZ (own_w hw 25 rfl))) (mvT hZ (own_w hw 25 rfl)) (mvT hZ (own_w hw 24 rfl)) (by decide) (backOf (W := 0) (rm4_0 l Z a0 hw [] b94 ((((0 : Int32) &&& (-2147483648 : Int32)) ||| (p1 &&& (2147483647 : Int32))) ||| (-2147483648 : Int32)) (T110.heap) n0 Z111 F115 Fw_110 g_b94) hZ (own_w hw 26 rfl) (own_w hw 3 rfl) (by decide) (by decide)) q123a q123c (g := (mkF m 82 #[vi p1, vi p2, vi (p1 &&& (2147483647 : Int32)), vi (1 : Int32), vi (0 : Int32), vr b94, vi (1 : Int32), .unset] [(.int (0 : Int32)), (.ref b94)])) rfl (by rw [hml]; rfl) (Steps.refl _) (argsL := [(.int (0 : Int32))]) (rest := []) (lenOf pd0_2 rfl) rfl (by show 2 * 0 + _ ≤ _; exact Nat.le_of_eq rfl) (hb hby at_82) (fun _ _ => ⟨rfl, eh118, (by decide : 1 + 0 ≤ _), (by decide : 5 + 0 ≤ _)⟩)
      dsimp only [Pt.U, Pt.locs, Pt.cells, Pt.slots] at X123 l123 y123 z123 st123 hQ123
      subst l123 y123 z123
      obtain ⟨rfl, Nq123, Kc123, Fw_123⟩ := hQ123
      have N123 := Fr.app N118 Nq123
      have Z124 : n0 ≤ T123.heap.size := Nat.le_trans Z111 Kc123.1
      have go125 : Go p e below s₁ F0 T123 (mkF m 85 #[vi p1, vi p2, vi (p1 &&& (2147483647 : Int32)), vi (1 : Int32), vi (0 : Int32), vr b94, vi (1 : Int32), .unset] []) := fun t k => go122 t (st123.trans k)
      have go126 : Go p e below s₁ F0 T123 (mkF m 87 #[vi p1, vi p2, vi (p1 &&& (2147483647 : Int32)), vi (1 : Int32), vi (0 : Int32), vr b94, vi (1 : Int32), .unset] [(.ref b94)]) := by
        intro t kt
        refine go125 t ?_
        refine o_aload X123 hx (hb hby at_85) rfl rfl ?_
        exact kt
      have F128 : Exa Z T123.heap b94 c_0 := (F115.keep Kc123)
      obtain ⟨cq127, kq127, q127a, q127b, q127c⟩ := isOf hZ rfl F128
      obtain ⟨_, _, ⟨T127, L127, k127, n127⟩, -, X127, ⟨Lc127, hQ127, l127, y127, z127⟩, st127⟩ := X123.virtualBack hx (y := y_4) (z := y_4) hown (mvT hZ (own_w hw 27 rfl)) (mvT hZ (own_w hw 28 rfl)) (notFace_of_selects (args := #[]) (mvT hZ (own_w hw 30 rfl))) (mvT hZ (own_w hw 30 rfl)) (mvT hZ (own_w hw 29 rfl)) (by decide) (backOf (W := 0) (rm5_0 l Z a0 hw [] b94 (((((0 : Int32) &&& (-2147483648 : Int32)) ||| (p1 &&& (2147483647 : Int32))) ||| (-2147483648 : Int32)) &&& (2147483647 : Int32)) (T123.heap) n0 Z124 Fw_123 (by rw [own_sign]; simp only [Int32.toBitVec_and, Int32.toBitVec_or, BitVec.getLsbD_and, BitVec.getLsbD_or, own_max 31 (by decide), own_min 31 (by decide), own_zero 31]; simp)) hZ (own_w hw 31 rfl) (own_w hw 3 rfl) (by decide) (by decide)) q127a q127c (g := (mkF m 87 #[vi p1, vi p2, vi (p1 &&& (2147483647 : Int32)), vi (1 : Int32), vi (0 : Int32), vr b94, vi (1 : Int32), .unset] [(.ref b94)])) rfl (by rw [hml]; rfl) (Steps.refl _) (argsL := []) (rest := []) (lenOf pd0_3 rfl) rfl (by show 2 * 0 + _ ≤ _; exact Nat.le_of_eq rfl) (hb hby at_87) (fun _ _ => ⟨rfl, rfl, (by decide : 1 + 0 ≤ _), (by decide : 5 + 0 ≤ _)⟩)
      dsimp only [Pt.U, Pt.locs, Pt.cells, Pt.slots] at X127 l127 y127 z127 st127 hQ127
      subst l127 y127 z127
      obtain ⟨rfl, Nq127, eh127⟩ := hQ127
      have N127 := Fr.app N123 Nq127
      have go129 : Go p e below s₁ F0 T127 (mkF m 90 #[vi p1, vi p2, vi (p1 &&& (2147483647 : Int32)), vi (1 : Int32), vi (0 : Int32), vr b94, vi (1 : Int32), .unset] [(.int (0 : Int32))]) := fun t k => go126 t (st127.trans k)
      have go130 : Go p e below s₁ F0 T127 (mkF m 97 #[vi p1, vi p2, vi (p1 &&& (2147483647 : Int32)), vi (1 : Int32), vi (0 : Int32), vr b94, vi (1 : Int32), .unset] [(.ref b94)]) := by
        intro t kt
        refine go129 t ?_
        refine o_iload X127 hx (hb hby at_90) rfl ?_
        refine o_icmpNo X127 hx (hb hby at_92) (teq (by decide : (0 : Int32) = (0 : Int32))).2 ?_
        refine o_aload X127 hx (hb hby at_95) rfl rfl ?_
        exact kt
      obtain ⟨cq131, kq131, q131a, q131b, q131c⟩ := isOf hZ eh127 F128
      obtain ⟨_, _, ⟨T131, L131, k131, n131⟩, -, X131, ⟨Lc131, hQ131, l131, y131, z131⟩, st131⟩ := X127.virtualBack hx (y := y_3) (z := y_3) hown (mvT hZ (own_w hw 32 rfl)) (mvT hZ (own_w hw 33 rfl)) (notFace_of_selects (args := #[]) (mvT hZ (own_w hw 35 rfl))) (mvT hZ (own_w hw 35 rfl)) (mvT hZ (own_w hw 34 rfl)) (by decide) (backOf (W := 0) (rm6 l Z a0 hw [] b94 (((((0 : Int32) &&& (-2147483648 : Int32)) ||| (p1 &&& (2147483647 : Int32))) ||| (-2147483648 : Int32)) &&& (2147483647 : Int32)) (T123.heap) n0 Z124 Fw_123) hZ (own_w hw 36 rfl) (own_w hw 3 rfl) (by decide) (by decide)) q131a q131c (g := (mkF m 97 #[vi p1, vi p2, vi (p1 &&& (2147483647 : Int32)), vi (1 : Int32), vi (0 : Int32), vr b94, vi (1 : Int32), .unset] [(.ref b94)])) rfl (by rw [hml]; rfl) (Steps.refl _) (argsL := []) (rest := []) (lenOf pd0_4 rfl) rfl (by show 2 * 0 + _ ≤ _; exact Nat.le_of_eq rfl) (hb hby at_97) (fun _ _ => ⟨rfl, eh127, (by decide : 1 + 0 ≤ _), (by decide : 5 + 0 ≤ _)⟩)
      dsimp only [Pt.U, Pt.locs, Pt.cells, Pt.slots] at X131 l131 y131 z131 st131 hQ131
      subst l131 y131 z131
      obtain ⟨rfl, Nq131, eh131⟩ := hQ131
      have N131 := Fr.app N127 Nq131
      have go132 : Go p e below s₁ F0 T131 (mkF m 100 #[vi p1, vi p2, vi (p1 &&& (2147483647 : Int32)), vi (1 : Int32), vi (0 : Int32), vr b94, vi (1 : Int32), .unset] [(.int ((((((0 : Int32) &&& (-2147483648 : Int32)) ||| (p1 &&& (2147483647 : Int32))) ||| (-2147483648 : Int32)) &&& (2147483647 : Int32)) &&& (2147483647 : Int32)))]) := fun t k => go130 t (st131.trans k)
      have go134 : Go p e below s₁ F0 T131 (mkF m 101 #[vi p1, vi p2, vi (p1 &&& (2147483647 : Int32)), vi (1 : Int32), vi (0 : Int32), vr b94, vi (1 : Int32), .unset] [(.int (p1 &&& (2147483647 : Int32))), (.int ((((((0 : Int32) &&& (-2147483648 : Int32)) ||| (p1 &&& (2147483647 : Int32))) ||| (-2147483648 : Int32)) &&& (2147483647 : Int32)) &&& (2147483647 : Int32)))]) := by
        intro t kt
        refine go132 t ?_
        refine o_iloadN X131 hx (hb hby at_100) rfl ?_
        exact kt
      have hd133 : ((((((0 : Int32) &&& (-2147483648 : Int32)) ||| (p1 &&& (2147483647 : Int32))) ||| (-2147483648 : Int32)) &&& (2147483647 : Int32)) &&& (2147483647 : Int32)) = (p1 &&& (2147483647 : Int32)) := (own_bits _ _ fun i hi => by simp only [Int32.toBitVec_and, Int32.toBitVec_or, BitVec.getLsbD_and, BitVec.getLsbD_or, own_max i hi, own_min i hi, own_zero i]; by_cases q : i = 31 <;> simp [q])
      have go135 : Go p e below s₁ F0 T131 (mkF m 126 #[vi p1, vi p2, vi (p1 &&& (2147483647 : Int32)), vi (1 : Int32), vi (0 : Int32), vr b94, vi (1 : Int32), vi (1 : Int32)] [(.int (1 : Int32))]) := by
        intro t kt
        refine go134 t ?_
        refine o_icmpNo X131 hx (hb hby at_101) (teq hd133).2 ?_
        refine o_iconst X131 hx (hb hby at_104) (v := 1) rfl ?_
        refine o_goto X131 hx (hb hby at_105) (pc' := 109) rfl (by decide) ?_
        refine o_istore X131 hx (hb hby at_109) (L' := #[vi p1, vi p2, vi (p1 &&& (2147483647 : Int32)), vi (1 : Int32), vi (0 : Int32), vr b94, vi (1 : Int32), vi (1 : Int32)]) rfl ?_
        refine o_iload X131 hx (hb hby at_111) rfl ?_
        refine o_ifNo X131 hx (hb hby at_113) ((if0 _ _).trans (feq (by decide : ¬ ((1 : Int32) = (0 : Int32)))).1) ?_
        refine o_iload X131 hx (hb hby at_116) rfl ?_
        refine o_ifNo X131 hx (hb hby at_118) ((if0 _ _).trans (feq (by decide : ¬ ((1 : Int32) = (0 : Int32)))).1) ?_
        refine o_iconst X131 hx (hb hby at_121) (v := 1) rfl ?_
        refine o_goto X131 hx (hb hby at_122) (pc' := 126) rfl (by decide) ?_
        exact kt
      obtain ⟨fs, hr, hrun, hended, hW, hsame⟩ := X131.leave (v := some (.int (1 : Int32))) (fun h => by rw [Bd.returns] at h; cases h)
      refine ⟨_, _, pre0 _ (go135 _ ?_), hrun, hended, _, _, rfl, ?_, ⟨_, rfl⟩, hW, hsame.mono (by decide) (by decide)⟩
      · skip
        exact retN X131 hx (t := .boolean) Bd.returns (by simp) (hb hby at_126) hr
      · show Q0 Z p1 p2 h0 n0 _ T131.heap _
        rw [eh131]
        exact ⟨rfl, N131⟩
    · skip
      have go136 : Go p e below s₁ F0 s₁ (mkF m 30 #[vi p1, vi p2, vi (p1 &&& (2147483647 : Int32)), vi (1 : Int32), vi (1 : Int32), .unset, .unset, .unset] []) := by
        intro t kt
        refine go91 t ?_
        refine o_ifNo X0 hx (hb hby at_20) ((if0 _ _).trans (feq hc20_92).1) ?_
        refine o_iconst X0 hx (hb hby at_23) (v := 1) rfl ?_
        refine o_goto X0 hx (hb hby at_24) (pc' := 28) rfl (by decide) ?_
        refine o_istore X0 hx (hb hby at_28) (L' := #[vi p1, vi p2, vi (p1 &&& (2147483647 : Int32)), vi (1 : Int32), vi (1 : Int32), .unset, .unset, .unset]) rfl ?_
        exact kt
      obtain ⟨T137, h137, X137, e137, E137, A137, D137, -, st137⟩ := newO X0 hx hZ hown (own_w hw 1 rfl) (own_w hw 2 rfl) (own_w hw 3 rfl) e0 (g := (mkF m 30 #[vi p1, vi p2, vi (p1 &&& (2147483647 : Int32)), vi (1 : Int32), vi (1 : Int32), .unset, .unset, .unset] [])) rfl (hb hby at_30) (by decide) (by decide)
      obtain ⟨b137, gz137⟩ : ∃ z, z = h0.size := ⟨_, rfl⟩
      rw [← gz137] at A137 D137 st137
      have g_b137 : n0 ≤ b137 := Nat.le_trans Z0 (Nat.le_of_eq gz137.symm)
      have Z138 : n0 ≤ h137.size := Nat.le_trans Z0 E137.1
      have F139 : Fld Z h137 b137 c_0 "key" "Ljava/lang/Object;" .null := D137 (Or.inr (own_w hw 11 rfl)) (ty := (.object "java/lang/Object")) (by decide)
      have F140 : Fld Z h137 b137 c_0 "value" "Ljava/lang/Object;" .null := D137 (Or.inl (own_w hw 13 rfl)) (ty := (.object "java/lang/Object")) (by decide)
      have F141 : Fld Z h137 b137 c_0 "weightAndHot" "I" (.int (0 : Int32)) := D137 (Or.inl (own_w hw 20 rfl)) (ty := .int) (by decide)
      have go142 : Go p e below s₁ F0 T137 (mkF m 33 #[vi p1, vi p2, vi (p1 &&& (2147483647 : Int32)), vi (1 : Int32), vi (1 : Int32), .unset, .unset, .unset] [(.ref b137)]) := fun t k => go136 t (st137 t k)
      have go143 : Go p e below s₁ F0 T137 (mkF m 36 #[vi p1, vi p2, vi (p1 &&& (2147483647 : Int32)), vi (1 : Int32), vi (1 : Int32), .unset, .unset, .unset] [.null, .null, (.ref b137), (.ref b137)]) := by
        intro t kt
        refine go142 t ?_
        refine o_dup X137 hx (hb hby at_33) rfl ?_
        refine o_null X137 hx (hb hby at_34) ?_
        refine o_null X137 hx (hb hby at_35) ?_
        exact kt
      obtain ⟨_, _, ⟨T144, L144, k144, n144⟩, -, X144, ⟨Lc144, hQ144, l144, y144, z144⟩, st144⟩ := X137.specialBack hx (y := y_0) rfl hown (mvT hZ (own_w hw 4 rfl)) (mvT hZ (own_w hw 5 rfl)) (mvT hZ (own_w hw 6 rfl)) (by decide) (backOf (W := 1) (rm1 l Z a0 hw [] b137 h137 n0 Z138 A137 F139 F140 F141 g_b137) hZ (own_w hw 6 rfl) (own_w hw 3 rfl) (by decide) (by decide)) (g := (mkF m 36 #[vi p1, vi p2, vi (p1 &&& (2147483647 : Int32)), vi (1 : Int32), vi (1 : Int32), .unset, .unset, .unset] [.null, .null, (.ref b137), (.ref b137)])) rfl (by rw [hml]; rfl) (Steps.refl _) (a := b137) (argsL := [.null, .null]) (rest := [(.ref b137)]) (lenOf pd0_0 rfl) rfl (by show 2 * 0 + _ ≤ _; exact Nat.le_of_eq rfl) (hb hby at_36) (fun _ _ => ⟨rfl, e137, (by decide : 1 + 0 ≤ _), (by decide : 5 + 0 ≤ _)⟩)
      dsimp only [Pt.U, Pt.locs, Pt.cells, Pt.slots] at X144 l144 y144 z144 st144 hQ144
      subst l144 y144 z144
      obtain ⟨rfl, Nq144, Kc144, E_144, Fw_144⟩ := hQ144
      have N144 := Fr.app N0 Nq144
      have Z145 : n0 ≤ T144.heap.size := Nat.le_trans Z138 Kc144.1
      have go146 : Go p e below s₁ F0 T144 (mkF m 39 #[vi p1, vi p2, vi (p1 &&& (2147483647 : Int32)), vi (1 : Int32), vi (1 : Int32), .unset, .unset, .unset] [(.ref b137)]) := fun t k => go143 t (st144.trans k)
      have go147 : Go p e below s₁ F0 T144 (mkF m 44 #[vi p1, vi p2, vi (p1 &&& (2147483647 : Int32)), vi (1 : Int32), vi (1 : Int32), vr b137, .unset, .unset] [(.int (p1 &&& (2147483647 : Int32))), (.ref b137)]) := by
        intro t kt
        refine go146 t ?_
        refine o_astore X144 hx (hb hby at_39) rfl (L' := #[vi p1, vi p2, vi (p1 &&& (2147483647 : Int32)), vi (1 : Int32), vi (1 : Int32), vr b137, .unset, .unset]) rfl ?_
        refine o_aload X144 hx (hb hby at_41) rfl rfl ?_
        refine o_iloadN X144 hx (hb hby at_43) rfl ?_
        exact kt
      obtain ⟨cq148, kq148, q148a, q148b, q148c⟩ := isOf hZ rfl E_144
      obtain ⟨_, _, ⟨T148, L148, k148, n148⟩, -, X148, ⟨Lc148, hQ148, l148, y148, z148⟩, st148⟩ := X144.virtualBack hx (y := y_1) (z := y_1) hown (mvT hZ (own_w hw 14 rfl)) (mvT hZ (own_w hw 15 rfl)) (notFace_of_selects (args := #[]) (mvT hZ (own_w hw 17 rfl))) (mvT hZ (own_w hw 17 rfl)) (mvT hZ (own_w hw 16 rfl)) (by decide) (backOf (W := 0) (rm3 l Z a0 hw [] b137 (p1 &&& (2147483647 : Int32)) (0 : Int32) (T144.heap) n0 Z145 E_144 Fw_144 g_b137) hZ (own_w hw 18 rfl) (own_w hw 3 rfl) (by decide) (by decide)) q148a q148c (g := (mkF m 44 #[vi p1, vi p2, vi (p1 &&& (2147483647 : Int32)), vi (1 : Int32), vi (1 : Int32), vr b137, .unset, .unset] [(.int (p1 &&& (2147483647 : Int32))), (.ref b137)])) rfl (by rw [hml]; rfl) (Steps.refl _) (argsL := [(.int (p1 &&& (2147483647 : Int32)))]) (rest := []) (lenOf pd0_1 rfl) rfl (by show 2 * 0 + _ ≤ _; exact Nat.le_of_eq rfl) (hb hby at_44) (fun _ _ => ⟨rfl, rfl, (by decide : 1 + 0 ≤ _), (by decide : 5 + 0 ≤ _)⟩)
      dsimp only [Pt.U, Pt.locs, Pt.cells, Pt.slots] at X148 l148 y148 z148 st148 hQ148
      subst l148 y148 z148
      obtain ⟨rfl, Nq148, Kc148, Fw_148⟩ := hQ148
      have N148 := Fr.app N144 Nq148
      have Z149 : n0 ≤ T148.heap.size := Nat.le_trans Z145 Kc148.1
      have go150 : Go p e below s₁ F0 T148 (mkF m 47 #[vi p1, vi p2, vi (p1 &&& (2147483647 : Int32)), vi (1 : Int32), vi (1 : Int32), vr b137, .unset, .unset] []) := fun t k => go147 t (st148.trans k)
      have F151 : Exa Z T148.heap b137 c_0 := (E_144.keep Kc148)
      have go152 : Go p e below s₁ F0 T148 (mkF m 50 #[vi p1, vi p2, vi (p1 &&& (2147483647 : Int32)), vi (1 : Int32), vi (1 : Int32), vr b137, .unset, .unset] [(.int (1 : Int32)), (.ref b137)]) := by
        intro t kt
        refine go150 t ?_
        refine o_aload X148 hx (hb hby at_47) rfl rfl ?_
        refine o_iloadN X148 hx (hb hby at_49) rfl ?_
        exact kt
      obtain ⟨cq153, kq153, q153a, q153b, q153c⟩ := isOf hZ rfl F151
      obtain ⟨_, _, ⟨T153, L153, k153, n153⟩, -, X153, ⟨Lc153, hQ153, l153, y153, z153⟩, st153⟩ := X148.virtualBack hx (y := y_2) (z := y_2) hown (mvT hZ (own_w hw 22 rfl)) (mvT hZ (own_w hw 23 rfl)) (notFace_of_selects (args := #[]) (mvT hZ (own_w hw 25 rfl))) (mvT hZ (own_w hw 25 rfl)) (mvT hZ (own_w hw 24 rfl)) (by decide) (backOf (W := 0) (rm4_1 l Z a0 hw [] b137 (((0 : Int32) &&& (-2147483648 : Int32)) ||| (p1 &&& (2147483647 : Int32))) (T148.heap) n0 Z149 F151 Fw_148 g_b137) hZ (own_w hw 26 rfl) (own_w hw 3 rfl) (by decide) (by decide)) q153a q153c (g := (mkF m 50 #[vi p1, vi p2, vi (p1 &&& (2147483647 : Int32)), vi (1 : Int32), vi (1 : Int32), vr b137, .unset, .unset] [(.int (1 : Int32)), (.ref b137)])) rfl (by rw [hml]; rfl) (Steps.refl _) (argsL := [(.int (1 : Int32))]) (rest := []) (lenOf pd0_2 rfl) rfl (by show 2 * 0 + _ ≤ _; exact Nat.le_of_eq rfl) (hb hby at_50) (fun _ _ => ⟨rfl, rfl, (by decide : 1 + 0 ≤ _), (by decide : 5 + 0 ≤ _)⟩)
      dsimp only [Pt.U, Pt.locs, Pt.cells, Pt.slots] at X153 l153 y153 z153 st153 hQ153
      subst l153 y153 z153
      obtain ⟨rfl, Nq153, Kc153, Fw_153⟩ := hQ153
      have N153 := Fr.app N148 Nq153
      have Z154 : n0 ≤ T153.heap.size := Nat.le_trans Z149 Kc153.1
      have go155 : Go p e below s₁ F0 T153 (mkF m 53 #[vi p1, vi p2, vi (p1 &&& (2147483647 : Int32)), vi (1 : Int32), vi (1 : Int32), vr b137, .unset, .unset] []) := fun t k => go152 t (st153.trans k)
      have go156 : Go p e below s₁ F0 T153 (mkF m 55 #[vi p1, vi p2, vi (p1 &&& (2147483647 : Int32)), vi (1 : Int32), vi (1 : Int32), vr b137, .unset, .unset] [(.ref b137)]) := by
        intro t kt
        refine go155 t ?_
        refine o_aload X153 hx (hb hby at_53) rfl rfl ?_
        exact kt
      have F158 : Exa Z T153.heap b137 c_0 := (F151.keep Kc153)
      obtain ⟨cq157, kq157, q157a, q157b, q157c⟩ := isOf hZ rfl F158
      obtain ⟨_, _, ⟨T157, L157, k157, n157⟩, -, X157, ⟨Lc157, hQ157, l157, y157, z157⟩, st157⟩ := X153.virtualBack hx (y := y_4) (z := y_4) hown (mvT hZ (own_w hw 27 rfl)) (mvT hZ (own_w hw 28 rfl)) (notFace_of_selects (args := #[]) (mvT hZ (own_w hw 30 rfl))) (mvT hZ (own_w hw 30 rfl)) (mvT hZ (own_w hw 29 rfl)) (by decide) (backOf (W := 0) (rm5_1 l Z a0 hw [] b137 ((((0 : Int32) &&& (-2147483648 : Int32)) ||| (p1 &&& (2147483647 : Int32))) ||| (-2147483648 : Int32)) (T153.heap) n0 Z154 Fw_153 (by rw [own_sign]; simp only [Int32.toBitVec_and, Int32.toBitVec_or, BitVec.getLsbD_and, BitVec.getLsbD_or, own_max 31 (by decide), own_min 31 (by decide), own_zero 31]; simp)) hZ (own_w hw 31 rfl) (own_w hw 3 rfl) (by decide) (by decide)) q157a q157c (g := (mkF m 55 #[vi p1, vi p2, vi (p1 &&& (2147483647 : Int32)), vi (1 : Int32), vi (1 : Int32), vr b137, .unset, .unset] [(.ref b137)])) rfl (by rw [hml]; rfl) (Steps.refl _) (argsL := []) (rest := []) (lenOf pd0_3 rfl) rfl (by show 2 * 0 + _ ≤ _; exact Nat.le_of_eq rfl) (hb hby at_55) (fun _ _ => ⟨rfl, rfl, (by decide : 1 + 0 ≤ _), (by decide : 5 + 0 ≤ _)⟩)
      dsimp only [Pt.U, Pt.locs, Pt.cells, Pt.slots] at X157 l157 y157 z157 st157 hQ157
      subst l157 y157 z157
      obtain ⟨rfl, Nq157, eh157⟩ := hQ157
      have N157 := Fr.app N153 Nq157
      have go159 : Go p e below s₁ F0 T157 (mkF m 58 #[vi p1, vi p2, vi (p1 &&& (2147483647 : Int32)), vi (1 : Int32), vi (1 : Int32), vr b137, .unset, .unset] [(.int (1 : Int32))]) := fun t k => go156 t (st157.trans k)
      have go160 : Go p e below s₁ F0 T157 (mkF m 64 #[vi p1, vi p2, vi (p1 &&& (2147483647 : Int32)), vi (1 : Int32), vi (1 : Int32), vr b137, .unset, .unset] [(.ref b137)]) := by
        intro t kt
        refine go159 t ?_
        refine o_iloadN X157 hx (hb hby at_58) rfl ?_
        refine o_icmpNo X157 hx (hb hby at_59) (teq (by decide : (1 : Int32) = (1 : Int32))).2 ?_
        refine o_aload X157 hx (hb hby at_62) rfl rfl ?_
        exact kt
      obtain ⟨cq161, kq161, q161a, q161b, q161c⟩ := isOf hZ eh157 F158
      obtain ⟨_, _, ⟨T161, L161, k161, n161⟩, -, X161, ⟨Lc161, hQ161, l161, y161, z161⟩, st161⟩ := X157.virtualBack hx (y := y_3) (z := y_3) hown (mvT hZ (own_w hw 32 rfl)) (mvT hZ (own_w hw 33 rfl)) (notFace_of_selects (args := #[]) (mvT hZ (own_w hw 35 rfl))) (mvT hZ (own_w hw 35 rfl)) (mvT hZ (own_w hw 34 rfl)) (by decide) (backOf (W := 0) (rm6 l Z a0 hw [] b137 ((((0 : Int32) &&& (-2147483648 : Int32)) ||| (p1 &&& (2147483647 : Int32))) ||| (-2147483648 : Int32)) (T153.heap) n0 Z154 Fw_153) hZ (own_w hw 36 rfl) (own_w hw 3 rfl) (by decide) (by decide)) q161a q161c (g := (mkF m 64 #[vi p1, vi p2, vi (p1 &&& (2147483647 : Int32)), vi (1 : Int32), vi (1 : Int32), vr b137, .unset, .unset] [(.ref b137)])) rfl (by rw [hml]; rfl) (Steps.refl _) (argsL := []) (rest := []) (lenOf pd0_4 rfl) rfl (by show 2 * 0 + _ ≤ _; exact Nat.le_of_eq rfl) (hb hby at_64) (fun _ _ => ⟨rfl, eh157, (by decide : 1 + 0 ≤ _), (by decide : 5 + 0 ≤ _)⟩)
      dsimp only [Pt.U, Pt.locs, Pt.cells, Pt.slots] at X161 l161 y161 z161 st161 hQ161
      subst l161 y161 z161
      obtain ⟨rfl, Nq161, eh161⟩ := hQ161
      have N161 := Fr.app N157 Nq161
      have go162 : Go p e below s₁ F0 T161 (mkF m 67 #[vi p1, vi p2, vi (p1 &&& (2147483647 : Int32)), vi (1 : Int32), vi (1 : Int32), vr b137, .unset, .unset] [(.int (((((0 : Int32) &&& (-2147483648 : Int32)) ||| (p1 &&& (2147483647 : Int32))) ||| (-2147483648 : Int32)) &&& (2147483647 : Int32)))]) := fun t k => go160 t (st161.trans k)
      have go164 : Go p e below s₁ F0 T161 (mkF m 68 #[vi p1, vi p2, vi (p1 &&& (2147483647 : Int32)), vi (1 : Int32), vi (1 : Int32), vr b137, .unset, .unset] [(.int (p1 &&& (2147483647 : Int32))), (.int (((((0 : Int32) &&& (-2147483648 : Int32)) ||| (p1 &&& (2147483647 : Int32))) ||| (-2147483648 : Int32)) &&& (2147483647 : Int32)))]) := by
        intro t kt
        refine go162 t ?_
        refine o_iloadN X161 hx (hb hby at_67) rfl ?_
        exact kt
      have hd163 : (((((0 : Int32) &&& (-2147483648 : Int32)) ||| (p1 &&& (2147483647 : Int32))) ||| (-2147483648 : Int32)) &&& (2147483647 : Int32)) = (p1 &&& (2147483647 : Int32)) := (own_bits _ _ fun i hi => by simp only [Int32.toBitVec_and, Int32.toBitVec_or, BitVec.getLsbD_and, BitVec.getLsbD_or, own_max i hi, own_min i hi, own_zero i]; by_cases q : i = 31 <;> simp [q])
      have go165 : Go p e below s₁ F0 T161 (mkF m 82 #[vi p1, vi p2, vi (p1 &&& (2147483647 : Int32)), vi (1 : Int32), vi (1 : Int32), vr b137, vi (1 : Int32), .unset] [(.int (1 : Int32)), (.ref b137)]) := by
        intro t kt
        refine go164 t ?_
        refine o_icmpNo X161 hx (hb hby at_68) (teq hd163).2 ?_
        refine o_iconst X161 hx (hb hby at_71) (v := 1) rfl ?_
        refine o_goto X161 hx (hb hby at_72) (pc' := 76) rfl (by decide) ?_
        refine o_istore X161 hx (hb hby at_76) (L' := #[vi p1, vi p2, vi (p1 &&& (2147483647 : Int32)), vi (1 : Int32), vi (1 : Int32), vr b137, vi (1 : Int32), .unset]) rfl ?_
        refine o_aload X161 hx (hb hby at_78) rfl rfl ?_
        refine o_iload X161 hx (hb hby at_80) rfl ?_
        exact kt
      obtain ⟨cq166, kq166, q166a, q166b, q166c⟩ := isOf hZ eh161 F158
      obtain ⟨_, _, ⟨T166, L166, k166, n166⟩, -, X166, ⟨Lc166, hQ166, l166, y166, z166⟩, st166⟩ := X161.virtualBack hx (y := y_2) (z := y_2) hown (mvT hZ (own_w hw 22 rfl)) (mvT hZ (own_w hw 23 rfl)) (notFace_of_selects (args := #[]) (mvT hZ (own_w hw 25 rfl))) (mvT hZ (own_w hw 25 rfl)) (mvT hZ (own_w hw 24 rfl)) (by decide) (backOf (W := 0) (rm4_1 l Z a0 hw [] b137 ((((0 : Int32) &&& (-2147483648 : Int32)) ||| (p1 &&& (2147483647 : Int32))) ||| (-2147483648 : Int32)) (T153.heap) n0 Z154 F158 Fw_153 g_b137) hZ (own_w hw 26 rfl) (own_w hw 3 rfl) (by decide) (by decide)) q166a q166c (g := (mkF m 82 #[vi p1, vi p2, vi (p1 &&& (2147483647 : Int32)), vi (1 : Int32), vi (1 : Int32), vr b137, vi (1 : Int32), .unset] [(.int (1 : Int32)), (.ref b137)])) rfl (by rw [hml]; rfl) (Steps.refl _) (argsL := [(.int (1 : Int32))]) (rest := []) (lenOf pd0_2 rfl) rfl (by show 2 * 0 + _ ≤ _; exact Nat.le_of_eq rfl) (hb hby at_82) (fun _ _ => ⟨rfl, eh161, (by decide : 1 + 0 ≤ _), (by decide : 5 + 0 ≤ _)⟩)
      dsimp only [Pt.U, Pt.locs, Pt.cells, Pt.slots] at X166 l166 y166 z166 st166 hQ166
      subst l166 y166 z166
      obtain ⟨rfl, Nq166, Kc166, Fw_166⟩ := hQ166
      have N166 := Fr.app N161 Nq166
      have Z167 : n0 ≤ T166.heap.size := Nat.le_trans Z154 Kc166.1
      have go168 : Go p e below s₁ F0 T166 (mkF m 85 #[vi p1, vi p2, vi (p1 &&& (2147483647 : Int32)), vi (1 : Int32), vi (1 : Int32), vr b137, vi (1 : Int32), .unset] []) := fun t k => go165 t (st166.trans k)
      have go169 : Go p e below s₁ F0 T166 (mkF m 87 #[vi p1, vi p2, vi (p1 &&& (2147483647 : Int32)), vi (1 : Int32), vi (1 : Int32), vr b137, vi (1 : Int32), .unset] [(.ref b137)]) := by
        intro t kt
        refine go168 t ?_
        refine o_aload X166 hx (hb hby at_85) rfl rfl ?_
        exact kt
      have F171 : Exa Z T166.heap b137 c_0 := (F158.keep Kc166)
      obtain ⟨cq170, kq170, q170a, q170b, q170c⟩ := isOf hZ rfl F171
      obtain ⟨_, _, ⟨T170, L170, k170, n170⟩, -, X170, ⟨Lc170, hQ170, l170, y170, z170⟩, st170⟩ := X166.virtualBack hx (y := y_4) (z := y_4) hown (mvT hZ (own_w hw 27 rfl)) (mvT hZ (own_w hw 28 rfl)) (notFace_of_selects (args := #[]) (mvT hZ (own_w hw 30 rfl))) (mvT hZ (own_w hw 30 rfl)) (mvT hZ (own_w hw 29 rfl)) (by decide) (backOf (W := 0) (rm5_1 l Z a0 hw [] b137 (((((0 : Int32) &&& (-2147483648 : Int32)) ||| (p1 &&& (2147483647 : Int32))) ||| (-2147483648 : Int32)) ||| (-2147483648 : Int32)) (T166.heap) n0 Z167 Fw_166 (by rw [own_sign]; simp only [Int32.toBitVec_and, Int32.toBitVec_or, BitVec.getLsbD_and, BitVec.getLsbD_or, own_max 31 (by decide), own_min 31 (by decide), own_zero 31]; simp)) hZ (own_w hw 31 rfl) (own_w hw 3 rfl) (by decide) (by decide)) q170a q170c (g := (mkF m 87 #[vi p1, vi p2, vi (p1 &&& (2147483647 : Int32)), vi (1 : Int32), vi (1 : Int32), vr b137, vi (1 : Int32), .unset] [(.ref b137)])) rfl (by rw [hml]; rfl) (Steps.refl _) (argsL := []) (rest := []) (lenOf pd0_3 rfl) rfl (by show 2 * 0 + _ ≤ _; exact Nat.le_of_eq rfl) (hb hby at_87) (fun _ _ => ⟨rfl, rfl, (by decide : 1 + 0 ≤ _), (by decide : 5 + 0 ≤ _)⟩)
      dsimp only [Pt.U, Pt.locs, Pt.cells, Pt.slots] at X170 l170 y170 z170 st170 hQ170
      subst l170 y170 z170
      obtain ⟨rfl, Nq170, eh170⟩ := hQ170
      have N170 := Fr.app N166 Nq170
      have go172 : Go p e below s₁ F0 T170 (mkF m 90 #[vi p1, vi p2, vi (p1 &&& (2147483647 : Int32)), vi (1 : Int32), vi (1 : Int32), vr b137, vi (1 : Int32), .unset] [(.int (1 : Int32))]) := fun t k => go169 t (st170.trans k)
      have go173 : Go p e below s₁ F0 T170 (mkF m 97 #[vi p1, vi p2, vi (p1 &&& (2147483647 : Int32)), vi (1 : Int32), vi (1 : Int32), vr b137, vi (1 : Int32), .unset] [(.ref b137)]) := by
        intro t kt
        refine go172 t ?_
        refine o_iload X170 hx (hb hby at_90) rfl ?_
        refine o_icmpNo X170 hx (hb hby at_92) (teq (by decide : (1 : Int32) = (1 : Int32))).2 ?_
        refine o_aload X170 hx (hb hby at_95) rfl rfl ?_
        exact kt
      obtain ⟨cq174, kq174, q174a, q174b, q174c⟩ := isOf hZ eh170 F171
      obtain ⟨_, _, ⟨T174, L174, k174, n174⟩, -, X174, ⟨Lc174, hQ174, l174, y174, z174⟩, st174⟩ := X170.virtualBack hx (y := y_3) (z := y_3) hown (mvT hZ (own_w hw 32 rfl)) (mvT hZ (own_w hw 33 rfl)) (notFace_of_selects (args := #[]) (mvT hZ (own_w hw 35 rfl))) (mvT hZ (own_w hw 35 rfl)) (mvT hZ (own_w hw 34 rfl)) (by decide) (backOf (W := 0) (rm6 l Z a0 hw [] b137 (((((0 : Int32) &&& (-2147483648 : Int32)) ||| (p1 &&& (2147483647 : Int32))) ||| (-2147483648 : Int32)) ||| (-2147483648 : Int32)) (T166.heap) n0 Z167 Fw_166) hZ (own_w hw 36 rfl) (own_w hw 3 rfl) (by decide) (by decide)) q174a q174c (g := (mkF m 97 #[vi p1, vi p2, vi (p1 &&& (2147483647 : Int32)), vi (1 : Int32), vi (1 : Int32), vr b137, vi (1 : Int32), .unset] [(.ref b137)])) rfl (by rw [hml]; rfl) (Steps.refl _) (argsL := []) (rest := []) (lenOf pd0_4 rfl) rfl (by show 2 * 0 + _ ≤ _; exact Nat.le_of_eq rfl) (hb hby at_97) (fun _ _ => ⟨rfl, eh170, (by decide : 1 + 0 ≤ _), (by decide : 5 + 0 ≤ _)⟩)
      dsimp only [Pt.U, Pt.locs, Pt.cells, Pt.slots] at X174 l174 y174 z174 st174 hQ174
      subst l174 y174 z174
      obtain ⟨rfl, Nq174, eh174⟩ := hQ174
      have N174 := Fr.app N170 Nq174
      have go175 : Go p e below s₁ F0 T174 (mkF m 100 #[vi p1, vi p2, vi (p1 &&& (2147483647 : Int32)), vi (1 : Int32), vi (1 : Int32), vr b137, vi (1 : Int32), .unset] [(.int ((((((0 : Int32) &&& (-2147483648 : Int32)) ||| (p1 &&& (2147483647 : Int32))) ||| (-2147483648 : Int32)) ||| (-2147483648 : Int32)) &&& (2147483647 : Int32)))]) := fun t k => go173 t (st174.trans k)
      have go177 : Go p e below s₁ F0 T174 (mkF m 101 #[vi p1, vi p2, vi (p1 &&& (2147483647 : Int32)), vi (1 : Int32), vi (1 : Int32), vr b137, vi (1 : Int32), .unset] [(.int (p1 &&& (2147483647 : Int32))), (.int ((((((0 : Int32) &&& (-2147483648 : Int32)) ||| (p1 &&& (2147483647 : Int32))) ||| (-2147483648 : Int32)) ||| (-2147483648 : Int32)) &&& (2147483647 : Int32)))]) := by
        intro t kt
        refine go175 t ?_
        refine o_iloadN X174 hx (hb hby at_100) rfl ?_
        exact kt
      have hd176 : ((((((0 : Int32) &&& (-2147483648 : Int32)) ||| (p1 &&& (2147483647 : Int32))) ||| (-2147483648 : Int32)) ||| (-2147483648 : Int32)) &&& (2147483647 : Int32)) = (p1 &&& (2147483647 : Int32)) := (own_bits _ _ fun i hi => by simp only [Int32.toBitVec_and, Int32.toBitVec_or, BitVec.getLsbD_and, BitVec.getLsbD_or, own_max i hi, own_min i hi, own_zero i]; by_cases q : i = 31 <;> simp [q])
      have go178 : Go p e below s₁ F0 T174 (mkF m 126 #[vi p1, vi p2, vi (p1 &&& (2147483647 : Int32)), vi (1 : Int32), vi (1 : Int32), vr b137, vi (1 : Int32), vi (1 : Int32)] [(.int (1 : Int32))]) := by
        intro t kt
        refine go177 t ?_
        refine o_icmpNo X174 hx (hb hby at_101) (teq hd176).2 ?_
        refine o_iconst X174 hx (hb hby at_104) (v := 1) rfl ?_
        refine o_goto X174 hx (hb hby at_105) (pc' := 109) rfl (by decide) ?_
        refine o_istore X174 hx (hb hby at_109) (L' := #[vi p1, vi p2, vi (p1 &&& (2147483647 : Int32)), vi (1 : Int32), vi (1 : Int32), vr b137, vi (1 : Int32), vi (1 : Int32)]) rfl ?_
        refine o_iload X174 hx (hb hby at_111) rfl ?_
        refine o_ifNo X174 hx (hb hby at_113) ((if0 _ _).trans (feq (by decide : ¬ ((1 : Int32) = (0 : Int32)))).1) ?_
        refine o_iload X174 hx (hb hby at_116) rfl ?_
        refine o_ifNo X174 hx (hb hby at_118) ((if0 _ _).trans (feq (by decide : ¬ ((1 : Int32) = (0 : Int32)))).1) ?_
        refine o_iconst X174 hx (hb hby at_121) (v := 1) rfl ?_
        refine o_goto X174 hx (hb hby at_122) (pc' := 126) rfl (by decide) ?_
        exact kt
      obtain ⟨fs, hr, hrun, hended, hW, hsame⟩ := X174.leave (v := some (.int (1 : Int32))) (fun h => by rw [Bd.returns] at h; cases h)
      refine ⟨_, _, pre0 _ (go178 _ ?_), hrun, hended, _, _, rfl, ?_, ⟨_, rfl⟩, hW, hsame.mono (by decide) (by decide)⟩
      · skip
        exact retN X174 hx (t := .boolean) Bd.returns (by simp) (hb hby at_126) hr
      · show Q0 Z p1 p2 h0 n0 _ T174.heap _
        rw [eh174]
        exact ⟨rfl, N174⟩

set_option maxRecDepth 65536 in
set_option maxHeartbeats 40000000 in
theorem comes_1 {Post : Tables → Env → Array Value → State → Outcome → State → Prop} (hpost : ∀ tb e args s v u, (limb_1_1.after args s (.returned v) u = true ∧ limb_1_2.after args s (.returned v) u = true ∧ True) → FrameEnd s (.returned v) u (Jvm.fieldLocs frame_1_writes args s ++ Jvm.arrayLocs frame_1_arrays args s ++ Jvm.staticLocs frame_1_statics s) 16 128 → Post tb e args s (.returned v) u) :
    ArmFor flags0 classFile x code maxLocals ret World_1 tables_1 room_1 Calls_1 rest_1 Pre_1 Post := by
  intro l hfl _ _ p e ha hc hk s m args below hf hA hF happ hP
  obtain ⟨hcalls, hrest, hpre⟩ := hP
  obtain ⟨-, -, -, hnamed, -, -, -, hat⟩ := (Spec.applies_iff hf).mp happ
  obtain ⟨hg, hn⟩ := and_e (Cond.before_iff.mp (show (Jvm.Cond.and given_1 narrow_1).before args s = true from hpre))
  obtain ⟨g1, g2⟩ := and_e hg
  obtain ⟨g3, g4⟩ := and_e g2
  obtain ⟨w0, w1, rfl⟩ : ∃ w0 w1 : Value, args = #[w0, w1] := by
    have hs : args.size = 2 := by simpa [Cond.value, given_1] using g1
    obtain ⟨L⟩ := args
    match L, hs with
    | [w0, w1], _ => exact ⟨w0, w1, rfl⟩
  have hw := fun d (hd : d ∈ tables_1) => atoms_spec (ws := Jvm.Cond.code x code maxLocals ret :: tables_1) hat d (List.mem_cons_of_mem _ hd)
  have hfit : Fit s := fun {y c} hc i hi => by
    obtain ⟨ha, rfl⟩ := Array.getElem?_eq_some_iff.mp hc
    have q := List.all_eq_true.mp ((Array.all_eq_true_iff_forall_mem.mp hF) _ (Array.getElem_mem ha)) i (List.mem_range.mpr hi)
    simpa [Array.getElem?_eq_getElem hi] using q
  obtain ⟨i0, ei0⟩ := is_v g3
  obtain rfl : w0 = (.int i0) := Option.some.inj ei0
  obtain ⟨i1, ei1⟩ := is_v g4
  obtain rfl : w1 = (.int i1) := Option.some.inj ei1
  obtain ⟨n, o, h1, h2, h3, _, L, rfl, ⟨rfl, N⟩, hq⟩ := rm0 l s _ hw tables_1 i0 i1  s.heap s.heap.size (Nat.le_refl _)  p e ha hc hk s m _ below hf ((Spec.applies_iff_loose hf).mp happ).1 ⟨rfl, State.Warmed39.refl s, rfl⟩ trivial
  refine ⟨n, _, h1, h2, h3, hpost _ _ _ _ _ _ ⟨Cond.after_iff.mpr rfl, Cond.after_iff.mpr (eq_i res_at (Term.int_eval (1)) rfl), trivial⟩ ⟨hq.1, hq.2.1, (hq.2.2.sift fun y hy => Or.inr (N y hy)).mono (by decide) (by decide)⟩⟩
theorem main_1_1 : Claimed_1_1 := comes_1 fun _ _ _ _ _ _ h hF => ⟨h.1, hF⟩
theorem main_1_2 : Claimed_1_2 := comes_1 fun _ _ _ _ _ _ h hF => ⟨h.2.1, hF⟩
end Jvm.Pilot.@@N@@
namespace Jvm.Pilot.@@N@@
open Jvm Jvm.ClassFile Sem Op Lib Jvm.Free Jvm.Stand Jvm.Pilot.@@N@@.Jvm.D
/-! MADE BY PROGRAM (witnessworld.py) out of the Statement's table words and the real class files: 9 classes; the members and pool entries that the words name. The judged class is class 1, her method 1. -/
namespace start1
open Jvm.ClassFile
def u (s : String) : CpInfo := .utf8 (stringToUtf16 s)
/-- a pool by its gaps: so many unusable entries, then the entry; so many at the end -/
def gap : Nat → List CpInfo → List CpInfo
  | 0, r => r
  | n + 1, r => .unusable :: gap n r
def poolList (es : List (Nat × CpInfo)) (last : Nat) : List CpInfo := es.foldr (fun e r => gap e.1 (e.2 :: r)) (gap last [])
def pool (es : List (Nat × CpInfo)) (last : Nat) : Array CpInfo := ⟨poolList es last⟩
def fileOf (pool : Array CpInfo) (this : Nat) (attrs : Array Attribute := #[]) (ms : Array MethodInfo := #[]) (fl : Nat := 33) (sup : Nat := 0) (ifs : Array Nat := #[]) (fds : Array FieldInfo := #[]) : ClassFile where
  minorVersion := 0
  majorVersion := 65
  constantPool := pool
  accessFlags := fl
  thisClass := this
  superClass := sup
  interfaces := ifs
  fields := fds
  methods := ms
  attributes := attrs
def plain (name : String) (sup : Option ClassId) : Class where
  name := name
  kind := .ordinary
  loader := none
  accessFlags := 33
  super := sup
  interfaces := #[]
  cf := none
  fields := #[]
  methods := #[]
  instanceTypes := #[]
  staticTypes := #[]
  resolved := #[]
  callSites := []
  init := .initialized
  statics := none
  mirror := none

def pool0 : Array CpInfo := pool [(5, u "<init>"), (0, u "()V"), (1, .class_ 10), (1, u "java/lang/Object")] 113

def k0c0 : Code := { maxStack := 0, maxLocals := 1, code := object_method_1_code, exceptionTable := #[], attributes := #[] }
def k0m0 : Method := { name := "<init>", desc := "()V", sig := { parameters := [], returnType := none }, accessFlags := 1, code := some k0c0 }
/-- java/lang/Object -/
def k0 : Class := { plain "java/lang/Object" none with
  accessFlags := 33
  interfaces := #[]
  cf := some (fileOf pool0 8 #[] #[{ accessFlags := 1, nameIndex := 5, descriptorIndex := 6, attributes := #[] }] 33 0 #[] #[])
  fields := #[]
  methods := #[k0m0]
  instanceTypes := #[]
  staticTypes := #[]
  resolved := Array.replicate 124 none
  statics := none }

def pool1 : Array CpInfo := pool [(2, .class_ 4), (1, u "java/lang/Object"), (0, u "<init>"), (0, u "()V"), (0, .integer 2147483647), (0, .class_ 9), (0, u "com/example/larder/larder/Node"), (0, .methodref 8 11), (0, .nameAndType 5 12), (0, u "(Ljava/lang/Object;Ljava/lang/Object;)V"), (0, .methodref 8 14), (0, .nameAndType 15 16), (0, u "setWeight"), (0, u "(I)V"), (0, .methodref 8 18), (0, .nameAndType 19 20), (0, u "setHot"), (0, u "(Z)V"), (0, .methodref 8 22), (0, .nameAndType 23 24), (0, u "isHot"), (0, u "()Z"), (0, .methodref 8 26), (0, .nameAndType 27 28), (0, u "weight"), (0, u "()I"), (0, .class_ 30), (0, u "com/example/larder/larder/NodeSetHotPinLaw"), (2, u "law"), (0, u "(II)Z")] 3

def k1m0 : Method := { name := "<init>", desc := "()V", sig := { parameters := [], returnType := none }, accessFlags := 1, code := none }
def k1c1 : Code := { maxStack := 4, maxLocals := 8, code := code, exceptionTable := #[], attributes := #[] }
def k1m1 : Method := { name := "law", desc := "(II)Z", sig := { parameters := [.int, .int], returnType := some .boolean }, accessFlags := 9, code := some k1c1 }
/-- com/example/larder/larder/NodeSetHotPinLaw -/
def k1 : Class := { plain "com/example/larder/larder/NodeSetHotPinLaw" (some 0) with
  accessFlags := 49
  interfaces := #[]
  cf := some (fileOf pool1 29 #[] #[{ accessFlags := 1, nameIndex := 5, descriptorIndex := 6, attributes := #[] }, { accessFlags := 9, nameIndex := 33, descriptorIndex := 34, attributes := #[] }] 49 2 #[] #[])
  fields := #[]
  methods := #[k1m0, k1m1]
  instanceTypes := #[]
  staticTypes := #[]
  resolved := Array.replicate 38 none
  statics := none }

def pool2 : Array CpInfo := pool [(1, .methodref 2 3), (0, .class_ 4), (0, .nameAndType 5 6), (0, u "java/lang/Object"), (0, u "<init>"), (0, u "()V"), (0, .fieldref 8 9), (0, .class_ 10), (0, .nameAndType 11 12), (0, u "com/example/larder/larder/Node"), (0, u "key"), (0, u "Ljava/lang/Object;"), (0, .fieldref 8 14), (0, .nameAndType 15 12), (0, u "value"), (0, .fieldref 8 17), (0, .nameAndType 18 19), (0, u "weightAndHot"), (0, u "I"), (2, .integer 2147483647), (0, .integer 2147483648), (33, u "WRITE_TIME"), (0, u "Ljava/lang/String;"), (1, u "ACCESS_TIME"), (0, u "WRITE_ORDER_PLACE"), (0, u "EXPIRY_TIME"), (0, u "HEAP_PLACE"), (3, u "previous"), (0, u "Lcom/example/larder/larder/Node;"), (1, u "next"), (0, u "(Ljava/lang/Object;Ljava/lang/Object;)V"), (3, u "weight"), (0, u "()I"), (0, u "setWeight"), (0, u "(I)V"), (0, u "isHot"), (0, u "()Z"), (1, u "setHot"), (0, u "(Z)V"), (24, .class_ 109), (0, u "com/example/larder/larder/Node$AccessTimed"), (0, .class_ 111), (0, u "com/example/larder/larder/Node$Expiring"), (0, .class_ 113), (0, u "com/example/larder/larder/Node$WriteTimed")] 18

def k2c0 : Code := { maxStack := 2, maxLocals := 3, code := prog_18_method_1_code, exceptionTable := #[], attributes := #[] }
def k2m0 : Method := { name := "<init>", desc := "(Ljava/lang/Object;Ljava/lang/Object;)V", sig := { parameters := [(.object "java/lang/Object"), (.object "java/lang/Object")], returnType := none }, accessFlags := 0, code := some k2c0 }
def k2c1 : Code := { maxStack := 2, maxLocals := 1, code := prog_18_method_2_code, exceptionTable := #[], attributes := #[] }
def k2m1 : Method := { name := "weight", desc := "()I", sig := { parameters := [], returnType := some .int }, accessFlags := 0, code := some k2c1 }
def k2c2 : Code := { maxStack := 3, maxLocals := 2, code := prog_18_method_3_code, exceptionTable := #[], attributes := #[] }
def k2m2 : Method := { name := "setWeight", desc := "(I)V", sig := { parameters := [.int], returnType := none }, accessFlags := 0, code := some k2c2 }
def k2c3 : Code := { maxStack := 1, maxLocals := 1, code := prog_18_method_4_code, exceptionTable := #[], attributes := #[] }
def k2m3 : Method := { name := "isHot", desc := "()Z", sig := { parameters := [], returnType := some .boolean }, accessFlags := 0, code := some k2c3 }
def k2c4 : Code := { maxStack := 3, maxLocals := 2, code := prog_18_method_5_code, exceptionTable := #[], attributes := #[] }
def k2m4 : Method := { name := "setHot", desc := "(Z)V", sig := { parameters := [.boolean], returnType := none }, accessFlags := 0, code := some k2c4 }
/-- com/example/larder/larder/Node -/
def k2 : Class := { plain "com/example/larder/larder/Node" (some 0) with
  accessFlags := 32
  interfaces := #[]
  cf := some (fileOf pool2 8 #[.nestMembers #[108, 110, 112]] #[{ accessFlags := 0, nameIndex := 5, descriptorIndex := 71, attributes := #[] }, { accessFlags := 0, nameIndex := 75, descriptorIndex := 76, attributes := #[] }, { accessFlags := 0, nameIndex := 77, descriptorIndex := 78, attributes := #[] }, { accessFlags := 0, nameIndex := 79, descriptorIndex := 80, attributes := #[] }, { accessFlags := 0, nameIndex := 82, descriptorIndex := 83, attributes := #[] }] 32 2 #[] #[{ accessFlags := 26, nameIndex := 57, descriptorIndex := 58, attributes := #[] }, { accessFlags := 26, nameIndex := 60, descriptorIndex := 58, attributes := #[] }, { accessFlags := 26, nameIndex := 61, descriptorIndex := 58, attributes := #[] }, { accessFlags := 26, nameIndex := 62, descriptorIndex := 58, attributes := #[] }, { accessFlags := 26, nameIndex := 63, descriptorIndex := 58, attributes := #[] }, { accessFlags := 16, nameIndex := 11, descriptorIndex := 12, attributes := #[] }, { accessFlags := 64, nameIndex := 15, descriptorIndex := 12, attributes := #[] }, { accessFlags := 0, nameIndex := 67, descriptorIndex := 68, attributes := #[] }, { accessFlags := 0, nameIndex := 70, descriptorIndex := 68, attributes := #[] }, { accessFlags := 2, nameIndex := 18, descriptorIndex := 19, attributes := #[] }])
  fields := #[{ name := "WRITE_TIME", type := (.object "java/lang/String"), accessFlags := 26, slot := 0, constantValue := 0 }, { name := "ACCESS_TIME", type := (.object "java/lang/String"), accessFlags := 26, slot := 1, constantValue := 0 }, { name := "WRITE_ORDER_PLACE", type := (.object "java/lang/String"), accessFlags := 26, slot := 2, constantValue := 0 }, { name := "EXPIRY_TIME", type := (.object "java/lang/String"), accessFlags := 26, slot := 3, constantValue := 0 }, { name := "HEAP_PLACE", type := (.object "java/lang/String"), accessFlags := 26, slot := 4, constantValue := 0 }, { name := "key", type := (.object "java/lang/Object"), accessFlags := 16, slot := 0, constantValue := 0 }, { name := "value", type := (.object "java/lang/Object"), accessFlags := 64, slot := 1, constantValue := 0 }, { name := "previous", type := (.object "com/example/larder/larder/Node"), accessFlags := 0, slot := 2, constantValue := 0 }, { name := "next", type := (.object "com/example/larder/larder/Node"), accessFlags := 0, slot := 3, constantValue := 0 }, { name := "weightAndHot", type := .int, accessFlags := 2, slot := 4, constantValue := 0 }]
  methods := #[k2m0, k2m1, k2m2, k2m3, k2m4]
  instanceTypes := #[(.object "java/lang/Object"), (.object "java/lang/Object"), (.object "com/example/larder/larder/Node"), (.object "com/example/larder/larder/Node"), .int]
  staticTypes := #[(.object "java/lang/String"), (.object "java/lang/String"), (.object "java/lang/String"), (.object "java/lang/String"), (.object "java/lang/String")]
  resolved := Array.replicate 132 none
  statics := none }

def pool3 : Array CpInfo := pool [(1, u "java/lang/Cloneable"), (0, .class_ 1), (0, u "java/lang/Object"), (0, .class_ 3)] 3

/-- java/lang/Cloneable -/
def k3 : Class := { plain "java/lang/Cloneable" (some 0) with
  accessFlags := 1537
  interfaces := #[]
  cf := some (fileOf pool3 2 #[] #[] 1537 4 #[] #[])
  fields := #[]
  methods := #[]
  instanceTypes := #[]
  staticTypes := #[]
  resolved := Array.replicate 8 none
  statics := none }

def pool4 : Array CpInfo := pool [(1, u "java/io/Serializable"), (0, .class_ 1), (0, u "java/lang/Object"), (0, .class_ 3)] 3

/-- java/io/Serializable -/
def k4 : Class := { plain "java/io/Serializable" (some 0) with
  accessFlags := 1537
  interfaces := #[]
  cf := some (fileOf pool4 2 #[] #[] 1537 4 #[] #[])
  fields := #[]
  methods := #[]
  instanceTypes := #[]
  staticTypes := #[]
  resolved := Array.replicate 8 none
  statics := none }

/-- the primitive byte -/
def k5 : Class := { plain "byte" none with kind := .primitive 'B', accessFlags := 0x411 }
/-- [B -/
def k6 : Class := { plain "[B" (some 0) with kind := .array 5 .byte, interfaces := #[3, 4], accessFlags := 1041 }

/-- the primitive int -/
def k7 : Class := { plain "int" none with kind := .primitive 'I', accessFlags := 0x411 }
/-- [I -/
def k8 : Class := { plain "[I" (some 0) with kind := .array 7 .int, interfaces := #[3, 4], accessFlags := 1041 }

def heap : Heap := #[]
def classes : Array Class := #[k0, k1, k2, k3, k4, k5, k6, k7, k8]
def interned : List (Array UInt16 × Addr) := []
def slotsUsed : Nat := 0
def theMethod : MethodId := ⟨1, 1⟩
def args0 : Array Value := #[.int 5, .int 5]
def aboutOver (below : List Frame) : State where
  vm := { classes := classes, interned := interned.toArray }
  heap := heap
  slotsUsed := slotsUsed
  threads := #[{ frames := .invoking theMethod args0 :: below }]
def below0 : List Frame := [.native { method := ⟨0, 0⟩, args := #[] }]
def about1 : State := aboutOver below0
def p0 : Program := .bare "" "" ""
def e0 : Env := launch0.env 0 0 0
theorem w_frames : about1.frames = Frame.invoking theMethod args0 :: below0 := rfl
set_option maxRecDepth 65536 in
theorem w_args : argsFit about1.vm theMethod args0 = true := by decide +kernel
set_option maxRecDepth 65536 in
theorem w_heap : heapFits about1 = true := by decide +kernel
set_option maxRecDepth 65536 in
theorem w_runnable : about1.curStatus? = some .runnable := by decide +kernel
set_option maxRecDepth 65536 in
theorem w_alone : about1.alone = true := by decide +kernel
set_option maxRecDepth 65536 in
theorem w_named : about1.methodNamed? x = some theMethod := by decide +kernel
set_option maxRecDepth 65536 in
theorem w_hears : about1.hears theMethod below0 = true := by decide +kernel
set_option maxRecDepth 65536 in
theorem w_ripe : about1.ripe theMethod args0 below0 = true := by decide +kernel
theorem w_running : about1.status = .running := rfl
set_option maxRecDepth 65536 in
theorem w_room : about1.hasRoom e0.platform room_1 = true :=
  launch0.hasRoom_least _ room_1 (by decide +kernel) (by decide +kernel) (by decide +kernel) (by decide +kernel) (by decide +kernel) (by decide +kernel)
theorem allAtoms_all (ts : List Jvm.Cond) (a : Array Jvm.Value) (st : Jvm.State) : (allAtoms ts).before a st = ts.all (fun c => c.before a st) := by
  induction ts with
  | nil => rfl
  | cons c t ih =>
    show (Jvm.Cond.and c (allAtoms t)).before a st = _
    rw [Jvm.Cond.before_and, ih, List.all_cons]
def words1 : List Jvm.Cond := Jvm.Cond.code x code maxLocals ret :: tables_1
/-- a 'code' word, met by the world's own term for the bytes: nothing is compared byte by byte -/
theorem code_word {y : MethodName} {bytes : ByteArray} {mx : Nat} {rt : Option FieldType} {a : Array Value} {s : State} {m : MethodId} {meth : Method} {c : Code} (h1 : s.methodNamed? y = some m) (h2 : s.vm.method? m = some meth) (h3 : meth.code = some c) (h4 : c.code = bytes)
    (h5 : (c.maxLocals == mx && c.exceptionTable.isEmpty && decide (c.maxStack ≤ mostOperands) && decide (meth.sig.returnType = rt) && !meth.locks && decide (parseMethodDescriptor y.desc = some meth.sig)) = true) : (Jvm.Cond.code y bytes mx rt).before a s = true := by
  simp only [Bool.and_eq_true, beq_iff_eq, Bool.not_eq_true', decide_eq_true_eq] at h5
  obtain ⟨⟨⟨⟨⟨g1, g2⟩, g3⟩, g4⟩, g5⟩, g6⟩ := h5
  simp [Cond.before, Cond.holds, Cond.value, h1, h2, h3, h4, g1, g2, g3, g4, g5, g6]
def isCode : Jvm.Cond → Bool
  | .code _ _ _ _ => true
  | _ => false
theorem all_split {L : List Jvm.Cond} {P : Jvm.Cond → Bool} (h1 : L.all (fun c => isCode c || P c) = true) (h2 : ∀ c ∈ L.filter isCode, P c = true) : L.all P = true := by
  refine List.all_eq_true.mpr fun c hc => ?_
  have h := List.all_eq_true.mp h1 c hc
  rcases Bool.eq_false_or_eq_true (isCode c) with hi | hi
  · exact h2 c (List.mem_filter.mpr ⟨hc, hi⟩)
  · simpa [hi] using h
set_option maxRecDepth 65536 in
theorem w_c0 : (Jvm.Cond.code x code maxLocals ret).before args0 about1 = true := code_word (m := ⟨1, 1⟩) (meth := k1m1) (c := k1c1) (by decide +kernel) rfl rfl rfl (by decide +kernel)
set_option maxRecDepth 65536 in
theorem w_c1 : (Jvm.Cond.code ({ cls := "com/example/larder/larder/Node", name := "<init>", desc := "(Ljava/lang/Object;Ljava/lang/Object;)V" } : Jvm.MethodName) prog_18_method_1_code (3 : Nat) (Option.none : Option Jvm.ClassFile.FieldType)).before args0 about1 = true := code_word (m := ⟨2, 0⟩) (meth := k2m0) (c := k2c0) (by decide +kernel) rfl rfl rfl (by decide +kernel)
set_option maxRecDepth 65536 in
theorem w_c2 : (Jvm.Cond.code ({ cls := "java/lang/Object", name := "<init>", desc := "()V" } : Jvm.MethodName) object_method_1_code (1 : Nat) (Option.none : Option Jvm.ClassFile.FieldType)).before args0 about1 = true := code_word (m := ⟨0, 0⟩) (meth := k0m0) (c := k0c0) (by decide +kernel) rfl rfl rfl (by decide +kernel)
set_option maxRecDepth 65536 in
theorem w_c3 : (Jvm.Cond.code ({ cls := "com/example/larder/larder/Node", name := "setWeight", desc := "(I)V" } : Jvm.MethodName) prog_18_method_3_code (2 : Nat) (Option.none : Option Jvm.ClassFile.FieldType)).before args0 about1 = true := code_word (m := ⟨2, 2⟩) (meth := k2m2) (c := k2c2) (by decide +kernel) rfl rfl rfl (by decide +kernel)
set_option maxRecDepth 65536 in
theorem w_c4 : (Jvm.Cond.code ({ cls := "com/example/larder/larder/Node", name := "setHot", desc := "(Z)V" } : Jvm.MethodName) prog_18_method_5_code (2 : Nat) (Option.none : Option Jvm.ClassFile.FieldType)).before args0 about1 = true := code_word (m := ⟨2, 4⟩) (meth := k2m4) (c := k2c4) (by decide +kernel) rfl rfl rfl (by decide +kernel)
set_option maxRecDepth 65536 in
theorem w_c5 : (Jvm.Cond.code ({ cls := "com/example/larder/larder/Node", name := "isHot", desc := "()Z" } : Jvm.MethodName) prog_18_method_4_code (1 : Nat) (Option.some Jvm.ClassFile.FieldType.boolean)).before args0 about1 = true := code_word (m := ⟨2, 3⟩) (meth := k2m3) (c := k2c3) (by decide +kernel) rfl rfl rfl (by decide +kernel)
set_option maxRecDepth 65536 in
theorem w_c6 : (Jvm.Cond.code ({ cls := "com/example/larder/larder/Node", name := "weight", desc := "()I" } : Jvm.MethodName) prog_18_method_2_code (1 : Nat) (Option.some Jvm.ClassFile.FieldType.int)).before args0 about1 = true := code_word (m := ⟨2, 1⟩) (meth := k2m1) (c := k2c1) (by decide +kernel) rfl rfl rfl (by decide +kernel)
def codes1 : List Jvm.Cond := [Jvm.Cond.code x code maxLocals ret, Jvm.Cond.code ({ cls := "com/example/larder/larder/Node", name := "<init>", desc := "(Ljava/lang/Object;Ljava/lang/Object;)V" } : Jvm.MethodName) prog_18_method_1_code (3 : Nat) (Option.none : Option Jvm.ClassFile.FieldType), Jvm.Cond.code ({ cls := "java/lang/Object", name := "<init>", desc := "()V" } : Jvm.MethodName) object_method_1_code (1 : Nat) (Option.none : Option Jvm.ClassFile.FieldType), Jvm.Cond.code ({ cls := "com/example/larder/larder/Node", name := "setWeight", desc := "(I)V" } : Jvm.MethodName) prog_18_method_3_code (2 : Nat) (Option.none : Option Jvm.ClassFile.FieldType), Jvm.Cond.code ({ cls := "com/example/larder/larder/Node", name := "setHot", desc := "(Z)V" } : Jvm.MethodName) prog_18_method_5_code (2 : Nat) (Option.none : Option Jvm.ClassFile.FieldType), Jvm.Cond.code ({ cls := "com/example/larder/larder/Node", name := "isHot", desc := "()Z" } : Jvm.MethodName) prog_18_method_4_code (1 : Nat) (Option.some Jvm.ClassFile.FieldType.boolean), Jvm.Cond.code ({ cls := "com/example/larder/larder/Node", name := "weight", desc := "()I" } : Jvm.MethodName) prog_18_method_2_code (1 : Nat) (Option.some Jvm.ClassFile.FieldType.int)]
set_option maxRecDepth 65536 in
theorem codes_eq : words1.filter isCode = codes1 := rfl
theorem w_codes : ∀ c ∈ words1.filter isCode, c.before args0 about1 = true := by
  rw [codes_eq]
  intro c hc
  simp only [codes1, List.mem_cons, List.not_mem_nil, or_false] at hc
  rcases hc with rfl | rfl | rfl | rfl | rfl | rfl | rfl
  · exact w_c0
  · exact w_c1
  · exact w_c2
  · exact w_c3
  · exact w_c4
  · exact w_c5
  · exact w_c6
set_option maxRecDepth 65536 in
theorem w_t1 : (words1.take 24).all (fun c => isCode c || c.before args0 about1) = true := by decide +kernel
set_option maxRecDepth 65536 in
theorem w_t2 : (words1.drop 24).all (fun c => isCode c || c.before args0 about1) = true := by decide +kernel
theorem w_tables : (allAtoms (Jvm.Cond.code x code maxLocals ret :: tables_1)).before args0 about1 = true := by
  rw [allAtoms_all]
  show words1.all (fun c => c.before args0 about1) = true
  refine all_split ?_ w_codes
  rw [← List.take_append_drop 24 words1, List.all_append, w_t1, w_t2]
  rfl
set_option maxRecDepth 65536 in
theorem w_case : (Jvm.Cond.and given_1 narrow_1).before args0 about1 = true := by decide +kernel
theorem w_applies : (headSpec (Jvm.Cond.code x code maxLocals ret :: tables_1) room_1).applies x e0.platform about1 = true :=
  (Spec.applies_iff w_frames).mpr ⟨w_running, w_runnable, w_alone, w_named, w_hears, w_ripe, w_room, w_tables⟩
theorem atStart : AtStart classFile x code maxLocals ret World_1 tables_1 room_1 Calls_1 rest_1 Pre_1 launch0 p0 e0 about1 theMethod args0 below0 :=
  ⟨lists_1, trivial, launch0.admits_env _ _ _, launch0.least_env, fairChoices_fair.cas, fairChoices_fair.clock, w_frames, w_args, w_heap, w_applies, trivial, trivial, w_case⟩
end start1
theorem witness_1 : WitnessClaimed_1 := ⟨start1.p0, start1.e0, start1.about1, start1.theMethod, start1.args0, start1.below0, start1.atStart⟩
end Jvm.Pilot.@@N@@
