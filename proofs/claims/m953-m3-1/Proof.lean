import JvmDerived
import JvmDerived.Pilot.@@N@@Statement
import JvmDerived.Pilot.@@N@@Code
set_option linter.unusedVariables false
set_option linter.unusedSimpArgs false

namespace Jvm.RoadKit
open Sem ClassFile Op Lib Jvm.Stand Jvm.Free Jvm.LawKit
section New
variable {p : Program} {l : Launch} {e : Env} {R : Room} {s : State} {m : MethodId} {args : Array Value} {below : List Frame} {meth : Method} {c : Code} {T : State} {locs : List Loc} {cells slots : Nat}
theorem retI (X : Stand p l e R s m args below meth c T locs cells slots) (hx : p.tables.exec = Jvm.exec) {pc : Nat} {Ls : Array Slot} {z : Int32} {rest : List Value} (hret : meth.sig.returnType = some .int) (hd : decode c.code pc = .ok (.ireturn, 1)) {fs : List Frame}
    (hl : ∀ (f : JFrame) (acts : List Action), f.method = m → f.locked = none → f.entered = [] → (doReturn e (T.setTop f) acts (some (.int z))).1 = T.setFrames fs) : Steps p.tables e below (T.setTop (mkF m pc Ls (.int z :: rest))) (T.setFrames fs) := by
  have hm' : T.vm.method? m = some meth := X.method'
  have hn : narrow .int (.int z) = .int z := rfl
  show Steps p.tables e below (T.setTop { method := m, pc := pc, locals := Ls, stack := _ :: rest, locked := none }) _
  jvm_step X.here [X.here.top, hx, hd, hm', hret, hn]
  first | (intro acts; rw [hl _ acts rfl rfl rfl]) | rw [hl _ _ rfl rfl rfl]
  exact Steps.refl _
end New
end Jvm.RoadKit
namespace Jvm.Pilot.@@N@@
open Jvm Jvm.ClassFile Sem Op Lib Jvm.Free Jvm.Stand Jvm.LawKit Jvm.RoadKit Bundle Jvm.Pilot.@@N@@.Jvm.D
abbrev c_0 : String := "com/example/larder/larder/Node"
abbrev y_0 : MethodName := ⟨"com/example/larder/larder/Node", "<init>", "(Ljava/lang/Object;Ljava/lang/Object;)V"⟩
abbrev y_1 : MethodName := ⟨"com/example/larder/larder/Node", "setWeight", "(I)V"⟩
abbrev y_2 : MethodName := ⟨"com/example/larder/larder/Node", "setHot", "(Z)V"⟩
abbrev y_3 : MethodName := ⟨"com/example/larder/larder/Node", "weight", "()I"⟩
abbrev y_4 : MethodName := ⟨"com/example/larder/larder/Node", "isHot", "()Z"⟩
abbrev own_zl (n : Nat) : List Value := List.replicate n (.long (0 : Int64))
abbrev own_zi (n : Nat) : List Value := List.replicate n (.int (0 : Int32))
abbrev own_zr (n : Nat) : List Value := List.replicate n .null
abbrev vi (x : Int32) : Slot := .val (.int x)
abbrev vj (x : Int64) : Slot := .val (.long x)
abbrev vr (x : Addr) : Slot := .val (.ref x)
section Steps
variable {p : Program} {l : Launch} {e : Env} {R : Room} {s : State} {m : MethodId} {args : Array Value} {below : List Frame} {meth : Method} {c : Code} {T : State} {locs : List Loc} {cells slots : Nat} {pc pc' : Nat} {Ls L' : Array Slot} {S : List Value} {t : State} {Z : State} {h : Heap} {a : Addr} {cl : Cell}
abbrev Go (p : Program) (e : Env) (below : List Frame) (T0 : State) (g0 : JFrame) (T : State) (g : JFrame) : Prop := ∀ t, Steps p.tables e below (T.setTop g) t → Steps p.tables e below (T0.setTop g0) t
theorem own_w {Z : State} {a0 : Array Value} (hw : ∀ d ∈ tables_1, d.before a0 Z = true) (k : Nat) {d : Jvm.Cond} (h : tables_1[k]? = some d) : d.before a0 Z = true := hw _ (List.mem_of_getElem? h)
theorem o_iloadN (X : Stand p l e R s m args below meth c T locs cells slots) (hx : p.tables.exec = Jvm.exec) {i : Fin 4} {v : Int32} (hd : decode c.code pc = .ok (.iload_n i, 1)) (hl : Ls[i.val]? = some (.val (.int v))) (k : Steps p.tables e below (T.setTop (mkF m (pc + 1) Ls (.int v :: S))) t) : Steps p.tables e below (T.setTop (mkF m pc Ls (S))) t := XS.iloadN X.here hx rfl hd hl k
theorem o_iload (X : Stand p l e R s m args below meth c T locs cells slots) (hx : p.tables.exec = Jvm.exec) {i : Nat} {v : Int32} (hd : decode c.code pc = .ok (.iload i, 2)) (hl : Ls[i]? = some (.val (.int v))) (k : Steps p.tables e below (T.setTop (mkF m (pc + 2) Ls (.int v :: S))) t) : Steps p.tables e below (T.setTop (mkF m pc Ls (S))) t := XS.iload X.here hx rfl hd hl k
theorem o_aloadN (X : Stand p l e R s m args below meth c T locs cells slots) (hx : p.tables.exec = Jvm.exec) {i : Fin 4} {v : Value} (hd : decode c.code pc = .ok (.aload_n i, 1)) (hl : Ls[i.val]? = some (.val v)) (hv : v.isRef = true) (k : Steps p.tables e below (T.setTop (mkF m (pc + 1) Ls (v :: S))) t) : Steps p.tables e below (T.setTop (mkF m pc Ls (S))) t := XS.aloadN X.here hx rfl hd hl hv k
theorem o_aload (X : Stand p l e R s m args below meth c T locs cells slots) (hx : p.tables.exec = Jvm.exec) {i : Nat} {v : Value} (hd : decode c.code pc = .ok (.aload i, 2)) (hl : Ls[i]? = some (.val v)) (hv : v.isRef = true) (k : Steps p.tables e below (T.setTop (mkF m (pc + 2) Ls (v :: S))) t) : Steps p.tables e below (T.setTop (mkF m pc Ls (S))) t := XS.aload X.here hx rfl hd hl hv k
theorem o_istoreN (X : Stand p l e R s m args below meth c T locs cells slots) (hx : p.tables.exec = Jvm.exec) {i : Fin 4} {v : Int32} (hd : decode c.code pc = .ok (.istore_n i, 1)) (hl : storeLocals Ls i.val (.int v) = some L') (k : Steps p.tables e below (T.setTop (mkF m (pc + 1) L' (S))) t) : Steps p.tables e below (T.setTop (mkF m pc Ls (.int v :: S))) t := XS.istoreN X.here hx rfl hd rfl hl k
theorem o_istore (X : Stand p l e R s m args below meth c T locs cells slots) (hx : p.tables.exec = Jvm.exec) {i : Nat} {v : Int32} (hd : decode c.code pc = .ok (.istore i, 2)) (hl : storeLocals Ls i (.int v) = some L') (k : Steps p.tables e below (T.setTop (mkF m (pc + 2) L' (S))) t) : Steps p.tables e below (T.setTop (mkF m pc Ls (.int v :: S))) t := XS.istore X.here hx rfl hd rfl hl k
theorem o_astore (X : Stand p l e R s m args below meth c T locs cells slots) (hx : p.tables.exec = Jvm.exec) {i : Nat} {v : Value} (hd : decode c.code pc = .ok (.astore i, 2)) (hv : v.isRef = true) (hl : storeLocals Ls i v = some L') (k : Steps p.tables e below (T.setTop (mkF m (pc + 2) L' (S))) t) : Steps p.tables e below (T.setTop (mkF m pc Ls (v :: S))) t := XS.astore X.here hx rfl hd rfl hv hl k
theorem o_iconst (X : Stand p l e R s m args below meth c T locs cells slots) (hx : p.tables.exec = Jvm.exec) {i : Int} {v : Int32} (hd : decode c.code pc = .ok (.iconst i, 1)) (hv : v = Int32.ofInt i) (k : Steps p.tables e below (T.setTop (mkF m (pc + 1) Ls (.int v :: S))) t) : Steps p.tables e below (T.setTop (mkF m pc Ls (S))) t := XS.iconst X.here hx rfl hd (hv ▸ k)
theorem o_null (X : Stand p l e R s m args below meth c T locs cells slots) (hx : p.tables.exec = Jvm.exec)  (hd : decode c.code pc = .ok (.aconst_null, 1))  (k : Steps p.tables e below (T.setTop (mkF m (pc + 1) Ls (.null :: S))) t) : Steps p.tables e below (T.setTop (mkF m pc Ls (S))) t := XS.aconstNull X.here hx rfl hd k
theorem o_ldc (X : Stand p l e R s m args below meth c T locs cells slots) (hx : p.tables.exec = Jvm.exec) {own : String} {i : Nat} {v : Int32} (ho : s.vm.findClass own = some m.cls) (w : (Cond.constant own i v).before args s = true) (hd : decode c.code pc = .ok (.ldc i, 2))  (k : Steps p.tables e below (T.setTop (mkF m (pc + 2) Ls (.int v :: S))) t) : Steps p.tables e below (T.setTop (mkF m pc Ls (S))) t := X.ldcInt hx ho w (g := mkF m pc Ls S) rfl hd _ k
theorem o_iand (X : Stand p l e R s m args below meth c T locs cells slots) (hx : p.tables.exec = Jvm.exec) {x y : Int32} (hd : decode c.code pc = .ok (.iand, 1))  (k : Steps p.tables e below (T.setTop (mkF m (pc + 1) Ls (.int (x &&& y) :: S))) t) : Steps p.tables e below (T.setTop (mkF m pc Ls (.int y :: .int x :: S))) t := XS.iand X.here hx rfl hd rfl k
theorem o_ior (X : Stand p l e R s m args below meth c T locs cells slots) (hx : p.tables.exec = Jvm.exec) {x y : Int32} (hd : decode c.code pc = .ok (.ior, 1))  (k : Steps p.tables e below (T.setTop (mkF m (pc + 1) Ls (.int (x ||| y) :: S))) t) : Steps p.tables e below (T.setTop (mkF m pc Ls (.int y :: .int x :: S))) t := XS.ior X.here hx rfl hd rfl k
theorem o_dup (X : Stand p l e R s m args below meth c T locs cells slots) (hx : p.tables.exec = Jvm.exec) {x : Value} (hd : decode c.code pc = .ok (.dup, 1)) (hc : x.category = 1) (k : Steps p.tables e below (T.setTop (mkF m (pc + 1) Ls (x :: x :: S))) t) : Steps p.tables e below (T.setTop (mkF m pc Ls (x :: S))) t := XS.dup X.here hx rfl hd rfl hc k
theorem o_goto (X : Stand p l e R s m args below meth c T locs cells slots) (hx : p.tables.exec = Jvm.exec) {o : Int} (hd : decode c.code pc = .ok (.goto o, 3)) (hp : ((pc : Int) + o).toNat = pc') (ho : 0 ≤ (pc : Int) + o) (k : Steps p.tables e below (T.setTop (mkF m (pc') Ls (S))) t) : Steps p.tables e below (T.setTop (mkF m pc Ls (S))) t := XS.goto X.here hx rfl rfl hd ho hp k
theorem o_ifYes (X : Stand p l e R s m args below meth c T locs cells slots) (hx : p.tables.exec = Jvm.exec) {cd : ClassFile.Cond} {x : Int32} {o : Int} (hd : decode c.code pc = .ok (.ifCond cd o, 3)) (hp : ((pc : Int) + o).toNat = pc') (ho : 0 ≤ (pc : Int) + o) (hc : ifCond.holds cd x = true) (k : Steps p.tables e below (T.setTop (mkF m (pc') Ls (S))) t) : Steps p.tables e below (T.setTop (mkF m pc Ls (.int x :: S))) t := XS.ifYes X.here hx rfl rfl hd rfl hc ho hp k
theorem o_ifNo (X : Stand p l e R s m args below meth c T locs cells slots) (hx : p.tables.exec = Jvm.exec) {cd : ClassFile.Cond} {x : Int32} {o : Int} (hd : decode c.code pc = .ok (.ifCond cd o, 3)) (hc : ifCond.holds cd x = false) (k : Steps p.tables e below (T.setTop (mkF m (pc + 3) Ls (S))) t) : Steps p.tables e below (T.setTop (mkF m pc Ls (.int x :: S))) t := XS.ifNo X.here hx rfl hd rfl hc k
theorem o_icmpNo (X : Stand p l e R s m args below meth c T locs cells slots) (hx : p.tables.exec = Jvm.exec) {cd : ClassFile.Cond} {x y : Int32} {o : Int} (hd : decode c.code pc = .ok (.if_icmp cd o, 3)) (hc : if_icmp.holds cd x y = false) (k : Steps p.tables e below (T.setTop (mkF m (pc + 3) Ls (S))) t) : Steps p.tables e below (T.setTop (mkF m pc Ls (.int y :: .int x :: S))) t := XS.icmpNo X.here hx rfl hd rfl hc k
end Steps
theorem d1_0 : decode prog_18_method_1_code 0 = .ok (.aload_n 0, 1) := by decide +kernel
theorem d1_1 : decode prog_18_method_1_code 1 = .ok (.invokespecial 1, 3) := by decide +kernel
theorem d1_4 : decode prog_18_method_1_code 4 = .ok (.aload_n 0, 1) := by decide +kernel
theorem d1_5 : decode prog_18_method_1_code 5 = .ok (.aload_n 1, 1) := by decide +kernel
theorem d1_6 : decode prog_18_method_1_code 6 = .ok (.putfield 7, 3) := by decide +kernel
theorem d1_9 : decode prog_18_method_1_code 9 = .ok (.aload_n 0, 1) := by decide +kernel
theorem d1_10 : decode prog_18_method_1_code 10 = .ok (.aload_n 2, 1) := by decide +kernel
theorem d1_11 : decode prog_18_method_1_code 11 = .ok (.putfield 13, 3) := by decide +kernel
theorem d1_14 : decode prog_18_method_1_code 14 = .ok (.return_, 1) := by decide +kernel
theorem pn_1 : plainName "com/example/larder/larder/Node" = true := by first | (simp [plainName, overriddenIn]; done) | decide +kernel
theorem ef_1 (m : MethodId) (x0 : Addr) : entryFrame m #[(.ref x0), .null, .null] 3 = mkF m 0 #[vr x0, .val .null, .val .null] [] := by first | (simp [entryFrame, mkF, argsToLocals, Value.category]; done) | rfl
def Q1 (Z : State) (a1 : Addr) (h0 : Heap) (n0 : Nat) (v : Option Value) (h : Heap) (L : List Loc) : Prop := v = none ∧ Fr n0 L ∧ Keep h0 h [a1] ∧ Exa Z h a1 c_0 ∧ Fld Z h a1 c_0 "weightAndHot" "I" (.int (0 : Int32))
set_option maxRecDepth 65536 in
set_option maxHeartbeats 40000000 in
theorem rm1 (l : Launch) (Z : State) (a0 : Array Value) (hw : ∀ d ∈ tables_1, d.before a0 Z = true) (ws : List Jvm.Cond) (a1 : Addr) (h0 : Heap) (n0 : Nat) (Z0 : n0 ≤ h0.size) (E0 : Exa Z h0 a1 c_0) (Fk : Fld Z h0 a1 c_0 "key" "Ljava/lang/Object;" .null) (Fv : Fld Z h0 a1 c_0 "value" "Ljava/lang/Object;" .null) (Fw : Fld Z h0 a1 c_0 "weightAndHot" "I" (.int (0 : Int32))) (g1 : n0 ≤ a1) :
    MetFree l y_0 (head1 (Jvm.Cond.code y_0 prog_18_method_1_code 3 none :: ws) ({ frames := 1, cells := 0, slots := 0, locals := 12 } : Room)) (fun a U => a = #[(.ref a1), .null, .null] ∧ Z.Warmed39 U.vm ∧ U.heap = h0) (fun _ _ _ _ _ => True) (fun _ U o U' => ∃ v L, o = .returned v ∧ Q1 Z a1 h0 n0 v U'.heap L ∧ FrameEnd U o U' L ({ frames := 1, cells := 0, slots := 0, locals := 12 } : Room).cells ({ frames := 1, cells := 0, slots := 0, locals := 12 } : Room).slots) := by
  refine MetFree.of_bodySF (plainFor_of_name pn_1) hisR ?_
  intro p e s m args below meth c s₁ Bd hml0 hP hK
  obtain ⟨rfl, hZ, hh⟩ := hP
  have hx := Bd.exec
  have hby := Bd.bytes
  have hml : c.maxLocals = 3 := hml0
  have hown : s.vm.findClass "com/example/larder/larder/Node" = some m.cls := findClass_of_methodNamed Bd.named
  have hnm := (name_of_methodNamed Bd.named Bd.method).1
  have X0 : Stand p l e ({ frames := 1, cells := 0, slots := 0, locals := 12 } : Room) s m #[(.ref a1), .null, .null] below meth c s₁ [] 0 0 := Stand.of_body Bd
  have e0 : s₁.heap = h0 := by rw [← hh, Bd.state]; rfl
  have N0 := Fr.nil n0
  have K0 : Keep h0 h0 [a1] := Keep.refl h0 [a1]
  obtain ⟨F0, hF0⟩ : ∃ F : JFrame, F = entryFrame m #[(.ref a1), .null, .null] 3 := ⟨_, rfl⟩
  have pre0 : ∀ t, Steps p.tables e below (s₁.setTop F0) t → Steps p.tables e below (s₁.setTop (entryFrame m #[(.ref a1), .null, .null] 3)) t := fun t k => hF0 ▸ k
  have go0 : Go p e below s₁ F0 s₁ (mkF m 0 #[vr a1, .val .null, .val .null] []) := fun t k => castTop (hF0.trans (ef_1 m a1)) k
  have go1 : Go p e below s₁ F0 s₁ (mkF m 1 #[vr a1, .val .null, .val .null] [(.ref a1)]) := by
    intro t kt
    refine go0 t ?_
    refine o_aloadN X0 hx (hb hby d1_0) rfl rfl ?_
    exact kt
  obtain ⟨T2, X2, e2, st2⟩ := initO X0 hx hZ hown (own_w hw 7 rfl) (own_w hw 8 rfl) (own_w hw 9 rfl) e0 (g := (mkF m 1 #[vr a1, .val .null, .val .null] [(.ref a1)])) rfl (by rw [hml]; rfl) rfl (hb hby d1_1) (by decide) (W := 0) (by show 2 * 0 + _ ≤ _; exact Nat.le_of_eq rfl) (by decide)
  have go3 : Go p e below s₁ F0 T2 (mkF m 4 #[vr a1, .val .null, .val .null] []) := fun t k => go1 t (st2 t k)
  have go4 : Go p e below s₁ F0 T2 (mkF m 6 #[vr a1, .val .null, .val .null] [.null, (.ref a1)]) := by
    intro t kt
    refine go3 t ?_
    refine o_aloadN X2 hx (hb hby d1_4) rfl rfl ?_
    refine o_aloadN X2 hx (hb hby d1_5) rfl rfl ?_
    exact kt
  obtain ⟨T5, h5, X5, e5, W5, st5⟩ := putF X2 hx hZ hown (host := "") (Or.inl (own_w hw 10 rfl)) Via.refl e2 Fk E0 (Or.inr ⟨(own_w hw 11 rfl), rfl, hnm⟩) (own_w hw 2 rfl) (ty := (.object "java/lang/Object")) (by decide) rfl rfl (g := (mkF m 6 #[vr a1, .val .null, .val .null] [.null, (.ref a1)])) rfl rfl (hb hby d1_6)
  have Fw5 : Fld Z h5 a1 c_0 "key" "Ljava/lang/Object;" .null := Fld.same W5 Fk
  have K6 : Keep h0 h5 [a1] := K0.wr W5 (Or.inl (List.mem_of_getElem? (i := 0) rfl))
  have Z6 : n0 ≤ h5.size := Nat.le_trans Z0 (Keep.of_wr W5).1
  have N5 := Fr.snoc X5 N0 g1
  have go7 : Go p e below s₁ F0 T5 (mkF m 9 #[vr a1, .val .null, .val .null] []) := fun t k => go4 t (st5 t k)
  have F8 : Exa Z h5 a1 c_0 := (E0.wr W5)
  have F9 : Fld Z h5 a1 c_0 "value" "Ljava/lang/Object;" .null := (Fv.other W5 (Or.inr (slot_ne (Or.inl (own_w hw 13 rfl)) (Or.inr (own_w hw 11 rfl)) (by decide) (t := (.object "java/lang/Object")) (t' := (.object "java/lang/Object")) (by decide) (by decide))))
  have go10 : Go p e below s₁ F0 T5 (mkF m 11 #[vr a1, .val .null, .val .null] [.null, (.ref a1)]) := by
    intro t kt
    refine go7 t ?_
    refine o_aloadN X5 hx (hb hby d1_9) rfl rfl ?_
    refine o_aloadN X5 hx (hb hby d1_10) rfl rfl ?_
    exact kt
  obtain ⟨T11, h11, X11, e11, W11, st11⟩ := putF X5 hx hZ hown (host := "") (Or.inl (own_w hw 12 rfl)) Via.refl e5 F9 F8 (Or.inl (own_w hw 13 rfl)) (own_w hw 2 rfl) (ty := (.object "java/lang/Object")) (by decide) rfl rfl (g := (mkF m 11 #[vr a1, .val .null, .val .null] [.null, (.ref a1)])) rfl rfl (hb hby d1_11)
  have Fw11 : Fld Z h11 a1 c_0 "value" "Ljava/lang/Object;" .null := Fld.same W11 F9
  have K12 : Keep h0 h11 [a1] := K6.wr W11 (Or.inl (List.mem_of_getElem? (i := 0) rfl))
  have Z12 : n0 ≤ h11.size := Nat.le_trans Z6 (Keep.of_wr W11).1
  have N11 := Fr.snoc X11 N5 g1
  have go13 : Go p e below s₁ F0 T11 (mkF m 14 #[vr a1, .val .null, .val .null] []) := fun t k => go10 t (st11 t k)
  obtain ⟨fs, hr, hrun, hended, hW, hsame⟩ := X11.leave (v := none) (fun _ => rfl)
  refine ⟨_, _, pre0 _ (go13 _ ?_), hrun, hended, _, _, rfl, ?_, ⟨_, rfl⟩, hW, hsame.mono (by decide) (by decide)⟩
  · skip
    exact X11.returnOut hx Bd.returns (hb hby d1_14) hr
  · show Q1 Z a1 h0 n0 _ T11.heap _
    rw [e11]
    have F14 : Exa Z h11 a1 c_0 := (F8.wr W11)
    have F15 : Fld Z h11 a1 c_0 "weightAndHot" "I" (.int (0 : Int32)) := ((Fw.other W5 (Or.inr (slot_ne (Or.inl (own_w hw 20 rfl)) (Or.inr (own_w hw 11 rfl)) (by decide) (t := .int) (t' := (.object "java/lang/Object")) (by decide) (by decide)))).other W11 (Or.inr (slot_ne (Or.inl (own_w hw 20 rfl)) (Or.inl (own_w hw 13 rfl)) (by decide) (t := .int) (t' := (.object "java/lang/Object")) (by decide) (by decide))))
    exact ⟨rfl, N11, K12, F14, F15⟩

theorem d3_0 : decode prog_18_method_3_code 0 = .ok (.aload_n 0, 1) := by decide +kernel
theorem d3_1 : decode prog_18_method_3_code 1 = .ok (.aload_n 0, 1) := by decide +kernel
theorem d3_2 : decode prog_18_method_3_code 2 = .ok (.getfield 16, 3) := by decide +kernel
theorem d3_5 : decode prog_18_method_3_code 5 = .ok (.ldc 23, 2) := by decide +kernel
theorem d3_7 : decode prog_18_method_3_code 7 = .ok (.iand, 1) := by decide +kernel
theorem d3_8 : decode prog_18_method_3_code 8 = .ok (.iload_n 1, 1) := by decide +kernel
theorem d3_9 : decode prog_18_method_3_code 9 = .ok (.ior, 1) := by decide +kernel
theorem d3_10 : decode prog_18_method_3_code 10 = .ok (.putfield 16, 3) := by decide +kernel
theorem d3_13 : decode prog_18_method_3_code 13 = .ok (.return_, 1) := by decide +kernel
theorem pn_3 : plainName "com/example/larder/larder/Node" = true := by first | (simp [plainName, overriddenIn]; done) | decide +kernel
theorem ef_3 (m : MethodId) (x0 : Addr) (x1 : Int32) : entryFrame m #[(.ref x0), (.int x1)] 2 = mkF m 0 #[vr x0, vi x1] [] := by first | (simp [entryFrame, mkF, argsToLocals, Value.category]; done) | rfl
def Q3 (Z : State) (a1 : Addr) (p2 : Int32) (w : Int32) (h0 : Heap) (n0 : Nat) (v : Option Value) (h : Heap) (L : List Loc) : Prop := v = none ∧ Fr n0 L ∧ Keep h0 h [a1] ∧ Fld Z h a1 c_0 "weightAndHot" "I" (.int ((w &&& (-2147483648 : Int32)) ||| p2))
set_option maxRecDepth 65536 in
set_option maxHeartbeats 40000000 in
theorem rm3 (l : Launch) (Z : State) (a0 : Array Value) (hw : ∀ d ∈ tables_1, d.before a0 Z = true) (ws : List Jvm.Cond) (a1 : Addr) (p2 : Int32) (w : Int32) (h0 : Heap) (n0 : Nat) (Z0 : n0 ≤ h0.size) (E0 : Exa Z h0 a1 c_0) (Fw : Fld Z h0 a1 c_0 "weightAndHot" "I" (.int w)) (g1 : n0 ≤ a1) :
    MetFree l y_1 (head1 (Jvm.Cond.code y_1 prog_18_method_3_code 2 none :: ws) ({ frames := 0, cells := 0, slots := 0, locals := 0 } : Room)) (fun a U => a = #[(.ref a1), (.int p2)] ∧ Z.Warmed39 U.vm ∧ U.heap = h0) (fun _ _ _ _ _ => True) (fun _ U o U' => ∃ v L, o = .returned v ∧ Q3 Z a1 p2 w h0 n0 v U'.heap L ∧ FrameEnd U o U' L ({ frames := 0, cells := 0, slots := 0, locals := 0 } : Room).cells ({ frames := 0, cells := 0, slots := 0, locals := 0 } : Room).slots) := by
  refine MetFree.of_bodySF (plainFor_of_name pn_3) hisR ?_
  intro p e s m args below meth c s₁ Bd hml0 hP hK
  obtain ⟨rfl, hZ, hh⟩ := hP
  have hx := Bd.exec
  have hby := Bd.bytes
  have hml : c.maxLocals = 2 := hml0
  have hown : s.vm.findClass "com/example/larder/larder/Node" = some m.cls := findClass_of_methodNamed Bd.named
  have hnm := (name_of_methodNamed Bd.named Bd.method).1
  have X0 : Stand p l e ({ frames := 0, cells := 0, slots := 0, locals := 0 } : Room) s m #[(.ref a1), (.int p2)] below meth c s₁ [] 0 0 := Stand.of_body Bd
  have e0 : s₁.heap = h0 := by rw [← hh, Bd.state]; rfl
  have N0 := Fr.nil n0
  have K0 : Keep h0 h0 [a1] := Keep.refl h0 [a1]
  obtain ⟨F0, hF0⟩ : ∃ F : JFrame, F = entryFrame m #[(.ref a1), (.int p2)] 2 := ⟨_, rfl⟩
  have pre0 : ∀ t, Steps p.tables e below (s₁.setTop F0) t → Steps p.tables e below (s₁.setTop (entryFrame m #[(.ref a1), (.int p2)] 2)) t := fun t k => hF0 ▸ k
  have go0 : Go p e below s₁ F0 s₁ (mkF m 0 #[vr a1, vi p2] []) := fun t k => castTop (hF0.trans (ef_3 m a1 p2)) k
  have go1 : Go p e below s₁ F0 s₁ (mkF m 2 #[vr a1, vi p2] [(.ref a1), (.ref a1)]) := by
    intro t kt
    refine go0 t ?_
    refine o_aloadN X0 hx (hb hby d3_0) rfl rfl ?_
    refine o_aloadN X0 hx (hb hby d3_1) rfl rfl ?_
    exact kt
  obtain ⟨T2, X2, e2, st2⟩ := getF X0 hx hZ hown (host := "") (Or.inl (own_w hw 19 rfl)) Via.refl e0 Fw (g := (mkF m 2 #[vr a1, vi p2] [(.ref a1), (.ref a1)])) rfl rfl (hb hby d3_2)
  have go3 : Go p e below s₁ F0 T2 (mkF m 5 #[vr a1, vi p2] [(.int w), (.ref a1)]) := fun t k => go1 t (st2 t k)
  have go4 : Go p e below s₁ F0 T2 (mkF m 10 #[vr a1, vi p2] [(.int ((w &&& (-2147483648 : Int32)) ||| p2)), (.ref a1)]) := by
    intro t kt
    refine go3 t ?_
    refine o_ldc X2 hx hown (mvT hZ (own_w hw 21 rfl)) (hb hby d3_5) ?_
    refine o_iand X2 hx (hb hby d3_7) ?_
    refine o_iloadN X2 hx (hb hby d3_8) rfl ?_
    refine o_ior X2 hx (hb hby d3_9) ?_
    exact kt
  obtain ⟨T5, h5, X5, e5, W5, st5⟩ := putF X2 hx hZ hown (host := "") (Or.inl (own_w hw 19 rfl)) Via.refl e2 Fw E0 (Or.inl (own_w hw 20 rfl)) (own_w hw 2 rfl) (ty := .int) (by decide) rfl rfl (g := (mkF m 10 #[vr a1, vi p2] [(.int ((w &&& (-2147483648 : Int32)) ||| p2)), (.ref a1)])) rfl rfl (hb hby d3_10)
  have Fw5 : Fld Z h5 a1 c_0 "weightAndHot" "I" (.int ((w &&& (-2147483648 : Int32)) ||| p2)) := Fld.same W5 Fw
  have K6 : Keep h0 h5 [a1] := K0.wr W5 (Or.inl (List.mem_of_getElem? (i := 0) rfl))
  have Z6 : n0 ≤ h5.size := Nat.le_trans Z0 (Keep.of_wr W5).1
  have N5 := Fr.snoc X5 N0 g1
  have go7 : Go p e below s₁ F0 T5 (mkF m 13 #[vr a1, vi p2] []) := fun t k => go4 t (st5 t k)
  obtain ⟨fs, hr, hrun, hended, hW, hsame⟩ := X5.leave (v := none) (fun _ => rfl)
  refine ⟨_, _, pre0 _ (go7 _ ?_), hrun, hended, _, _, rfl, ?_, ⟨_, rfl⟩, hW, hsame.mono (by decide) (by decide)⟩
  · skip
    exact X5.returnOut hx Bd.returns (hb hby d3_13) hr
  · show Q3 Z a1 p2 w h0 n0 _ T5.heap _
    rw [e5]
    exact ⟨rfl, N5, K6, Fw5⟩

theorem d4_0 : decode prog_18_method_5_code 0 = .ok (.aload_n 0, 1) := by decide +kernel
theorem d4_1 : decode prog_18_method_5_code 1 = .ok (.iload_n 1, 1) := by decide +kernel
theorem d4_2 : decode prog_18_method_5_code 2 = .ok (.ifCond .eq 13, 3) := by decide +kernel
theorem d4_15 : decode prog_18_method_5_code 15 = .ok (.aload_n 0, 1) := by decide +kernel
theorem d4_16 : decode prog_18_method_5_code 16 = .ok (.getfield 16, 3) := by decide +kernel
theorem d4_19 : decode prog_18_method_5_code 19 = .ok (.ldc 22, 2) := by decide +kernel
theorem d4_21 : decode prog_18_method_5_code 21 = .ok (.iand, 1) := by decide +kernel
theorem d4_22 : decode prog_18_method_5_code 22 = .ok (.putfield 16, 3) := by decide +kernel
theorem d4_25 : decode prog_18_method_5_code 25 = .ok (.return_, 1) := by decide +kernel
theorem pn_4_0 : plainName "com/example/larder/larder/Node" = true := by first | (simp [plainName, overriddenIn]; done) | decide +kernel
theorem ef_4_0 (m : MethodId) (x0 : Addr) : entryFrame m #[(.ref x0), (.int (0 : Int32))] 2 = mkF m 0 #[vr x0, vi (0 : Int32)] [] := by first | (simp [entryFrame, mkF, argsToLocals, Value.category]; done) | rfl
def Q4_0 (Z : State) (a1 : Addr) (w : Int32) (h0 : Heap) (n0 : Nat) (v : Option Value) (h : Heap) (L : List Loc) : Prop := v = none ∧ Fr n0 L ∧ Keep h0 h [a1] ∧ Fld Z h a1 c_0 "weightAndHot" "I" (.int (w &&& (2147483647 : Int32)))
set_option maxRecDepth 65536 in
set_option maxHeartbeats 40000000 in
theorem rm4_0 (l : Launch) (Z : State) (a0 : Array Value) (hw : ∀ d ∈ tables_1, d.before a0 Z = true) (ws : List Jvm.Cond) (a1 : Addr) (w : Int32) (h0 : Heap) (n0 : Nat) (Z0 : n0 ≤ h0.size) (E0 : Exa Z h0 a1 c_0) (Fw : Fld Z h0 a1 c_0 "weightAndHot" "I" (.int w)) (g1 : n0 ≤ a1) :
    MetFree l y_2 (head1 (Jvm.Cond.code y_2 prog_18_method_5_code 2 none :: ws) ({ frames := 0, cells := 0, slots := 0, locals := 0 } : Room)) (fun a U => a = #[(.ref a1), (.int (0 : Int32))] ∧ Z.Warmed39 U.vm ∧ U.heap = h0) (fun _ _ _ _ _ => True) (fun _ U o U' => ∃ v L, o = .returned v ∧ Q4_0 Z a1 w h0 n0 v U'.heap L ∧ FrameEnd U o U' L ({ frames := 0, cells := 0, slots := 0, locals := 0 } : Room).cells ({ frames := 0, cells := 0, slots := 0, locals := 0 } : Room).slots) := by
  refine MetFree.of_bodySF (plainFor_of_name pn_4_0) hisR ?_
  intro p e s m args below meth c s₁ Bd hml0 hP hK
  obtain ⟨rfl, hZ, hh⟩ := hP
  have hx := Bd.exec
  have hby := Bd.bytes
  have hml : c.maxLocals = 2 := hml0
  have hown : s.vm.findClass "com/example/larder/larder/Node" = some m.cls := findClass_of_methodNamed Bd.named
  have hnm := (name_of_methodNamed Bd.named Bd.method).1
  have X0 : Stand p l e ({ frames := 0, cells := 0, slots := 0, locals := 0 } : Room) s m #[(.ref a1), (.int (0 : Int32))] below meth c s₁ [] 0 0 := Stand.of_body Bd
  have e0 : s₁.heap = h0 := by rw [← hh, Bd.state]; rfl
  have N0 := Fr.nil n0
  have K0 : Keep h0 h0 [a1] := Keep.refl h0 [a1]
  obtain ⟨F0, hF0⟩ : ∃ F : JFrame, F = entryFrame m #[(.ref a1), (.int (0 : Int32))] 2 := ⟨_, rfl⟩
  have pre0 : ∀ t, Steps p.tables e below (s₁.setTop F0) t → Steps p.tables e below (s₁.setTop (entryFrame m #[(.ref a1), (.int (0 : Int32))] 2)) t := fun t k => hF0 ▸ k
  have go0 : Go p e below s₁ F0 s₁ (mkF m 0 #[vr a1, vi (0 : Int32)] []) := fun t k => castTop (hF0.trans (ef_4_0 m a1)) k
  have go1 : Go p e below s₁ F0 s₁ (mkF m 16 #[vr a1, vi (0 : Int32)] [(.ref a1), (.ref a1)]) := by
    intro t kt
    refine go0 t ?_
    refine o_aloadN X0 hx (hb hby d4_0) rfl rfl ?_
    refine o_iloadN X0 hx (hb hby d4_1) rfl ?_
    refine o_ifYes X0 hx (hb hby d4_2) (pc' := 15) rfl (by decide) ((if0 _ _).trans (teq (by decide : (0 : Int32) = (0 : Int32))).1) ?_
    refine o_aloadN X0 hx (hb hby d4_15) rfl rfl ?_
    exact kt
  obtain ⟨T2, X2, e2, st2⟩ := getF X0 hx hZ hown (host := "") (Or.inl (own_w hw 19 rfl)) Via.refl e0 Fw (g := (mkF m 16 #[vr a1, vi (0 : Int32)] [(.ref a1), (.ref a1)])) rfl rfl (hb hby d4_16)
  have go3 : Go p e below s₁ F0 T2 (mkF m 19 #[vr a1, vi (0 : Int32)] [(.int w), (.ref a1)]) := fun t k => go1 t (st2 t k)
  have go4 : Go p e below s₁ F0 T2 (mkF m 22 #[vr a1, vi (0 : Int32)] [(.int (w &&& (2147483647 : Int32))), (.ref a1)]) := by
    intro t kt
    refine go3 t ?_
    refine o_ldc X2 hx hown (mvT hZ (own_w hw 27 rfl)) (hb hby d4_19) ?_
    refine o_iand X2 hx (hb hby d4_21) ?_
    exact kt
  obtain ⟨T5, h5, X5, e5, W5, st5⟩ := putF X2 hx hZ hown (host := "") (Or.inl (own_w hw 19 rfl)) Via.refl e2 Fw E0 (Or.inl (own_w hw 20 rfl)) (own_w hw 2 rfl) (ty := .int) (by decide) rfl rfl (g := (mkF m 22 #[vr a1, vi (0 : Int32)] [(.int (w &&& (2147483647 : Int32))), (.ref a1)])) rfl rfl (hb hby d4_22)
  have Fw5 : Fld Z h5 a1 c_0 "weightAndHot" "I" (.int (w &&& (2147483647 : Int32))) := Fld.same W5 Fw
  have K6 : Keep h0 h5 [a1] := K0.wr W5 (Or.inl (List.mem_of_getElem? (i := 0) rfl))
  have Z6 : n0 ≤ h5.size := Nat.le_trans Z0 (Keep.of_wr W5).1
  have N5 := Fr.snoc X5 N0 g1
  have go7 : Go p e below s₁ F0 T5 (mkF m 25 #[vr a1, vi (0 : Int32)] []) := fun t k => go4 t (st5 t k)
  obtain ⟨fs, hr, hrun, hended, hW, hsame⟩ := X5.leave (v := none) (fun _ => rfl)
  refine ⟨_, _, pre0 _ (go7 _ ?_), hrun, hended, _, _, rfl, ?_, ⟨_, rfl⟩, hW, hsame.mono (by decide) (by decide)⟩
  · skip
    exact X5.returnOut hx Bd.returns (hb hby d4_25) hr
  · show Q4_0 Z a1 w h0 n0 _ T5.heap _
    rw [e5]
    exact ⟨rfl, N5, K6, Fw5⟩

theorem d4_5 : decode prog_18_method_5_code 5 = .ok (.aload_n 0, 1) := by decide +kernel
theorem d4_6 : decode prog_18_method_5_code 6 = .ok (.getfield 16, 3) := by decide +kernel
theorem d4_9 : decode prog_18_method_5_code 9 = .ok (.ldc 23, 2) := by decide +kernel
theorem d4_11 : decode prog_18_method_5_code 11 = .ok (.ior, 1) := by decide +kernel
theorem d4_12 : decode prog_18_method_5_code 12 = .ok (.goto 10, 3) := by decide +kernel
theorem pn_4_1 : plainName "com/example/larder/larder/Node" = true := by first | (simp [plainName, overriddenIn]; done) | decide +kernel
theorem ef_4_1 (m : MethodId) (x0 : Addr) : entryFrame m #[(.ref x0), (.int (1 : Int32))] 2 = mkF m 0 #[vr x0, vi (1 : Int32)] [] := by first | (simp [entryFrame, mkF, argsToLocals, Value.category]; done) | rfl
def Q4_1 (Z : State) (a1 : Addr) (w : Int32) (h0 : Heap) (n0 : Nat) (v : Option Value) (h : Heap) (L : List Loc) : Prop := v = none ∧ Fr n0 L ∧ Keep h0 h [a1] ∧ Fld Z h a1 c_0 "weightAndHot" "I" (.int (w ||| (-2147483648 : Int32)))
set_option maxRecDepth 65536 in
set_option maxHeartbeats 40000000 in
theorem rm4_1 (l : Launch) (Z : State) (a0 : Array Value) (hw : ∀ d ∈ tables_1, d.before a0 Z = true) (ws : List Jvm.Cond) (a1 : Addr) (w : Int32) (h0 : Heap) (n0 : Nat) (Z0 : n0 ≤ h0.size) (E0 : Exa Z h0 a1 c_0) (Fw : Fld Z h0 a1 c_0 "weightAndHot" "I" (.int w)) (g1 : n0 ≤ a1) :
    MetFree l y_2 (head1 (Jvm.Cond.code y_2 prog_18_method_5_code 2 none :: ws) ({ frames := 0, cells := 0, slots := 0, locals := 0 } : Room)) (fun a U => a = #[(.ref a1), (.int (1 : Int32))] ∧ Z.Warmed39 U.vm ∧ U.heap = h0) (fun _ _ _ _ _ => True) (fun _ U o U' => ∃ v L, o = .returned v ∧ Q4_1 Z a1 w h0 n0 v U'.heap L ∧ FrameEnd U o U' L ({ frames := 0, cells := 0, slots := 0, locals := 0 } : Room).cells ({ frames := 0, cells := 0, slots := 0, locals := 0 } : Room).slots) := by
  refine MetFree.of_bodySF (plainFor_of_name pn_4_1) hisR ?_
  intro p e s m args below meth c s₁ Bd hml0 hP hK
  obtain ⟨rfl, hZ, hh⟩ := hP
  have hx := Bd.exec
  have hby := Bd.bytes
  have hml : c.maxLocals = 2 := hml0
  have hown : s.vm.findClass "com/example/larder/larder/Node" = some m.cls := findClass_of_methodNamed Bd.named
  have hnm := (name_of_methodNamed Bd.named Bd.method).1
  have X0 : Stand p l e ({ frames := 0, cells := 0, slots := 0, locals := 0 } : Room) s m #[(.ref a1), (.int (1 : Int32))] below meth c s₁ [] 0 0 := Stand.of_body Bd
  have e0 : s₁.heap = h0 := by rw [← hh, Bd.state]; rfl
  have N0 := Fr.nil n0
  have K0 : Keep h0 h0 [a1] := Keep.refl h0 [a1]
  obtain ⟨F0, hF0⟩ : ∃ F : JFrame, F = entryFrame m #[(.ref a1), (.int (1 : Int32))] 2 := ⟨_, rfl⟩
  have pre0 : ∀ t, Steps p.tables e below (s₁.setTop F0) t → Steps p.tables e below (s₁.setTop (entryFrame m #[(.ref a1), (.int (1 : Int32))] 2)) t := fun t k => hF0 ▸ k
  have go0 : Go p e below s₁ F0 s₁ (mkF m 0 #[vr a1, vi (1 : Int32)] []) := fun t k => castTop (hF0.trans (ef_4_1 m a1)) k
  have go1 : Go p e below s₁ F0 s₁ (mkF m 6 #[vr a1, vi (1 : Int32)] [(.ref a1), (.ref a1)]) := by
    intro t kt
    refine go0 t ?_
    refine o_aloadN X0 hx (hb hby d4_0) rfl rfl ?_
    refine o_iloadN X0 hx (hb hby d4_1) rfl ?_
    refine o_ifNo X0 hx (hb hby d4_2) ((if0 _ _).trans (feq (by decide : ¬ ((1 : Int32) = (0 : Int32)))).1) ?_
    refine o_aloadN X0 hx (hb hby d4_5) rfl rfl ?_
    exact kt
  obtain ⟨T2, X2, e2, st2⟩ := getF X0 hx hZ hown (host := "") (Or.inl (own_w hw 19 rfl)) Via.refl e0 Fw (g := (mkF m 6 #[vr a1, vi (1 : Int32)] [(.ref a1), (.ref a1)])) rfl rfl (hb hby d4_6)
  have go3 : Go p e below s₁ F0 T2 (mkF m 9 #[vr a1, vi (1 : Int32)] [(.int w), (.ref a1)]) := fun t k => go1 t (st2 t k)
  have go4 : Go p e below s₁ F0 T2 (mkF m 22 #[vr a1, vi (1 : Int32)] [(.int (w ||| (-2147483648 : Int32))), (.ref a1)]) := by
    intro t kt
    refine go3 t ?_
    refine o_ldc X2 hx hown (mvT hZ (own_w hw 21 rfl)) (hb hby d4_9) ?_
    refine o_ior X2 hx (hb hby d4_11) ?_
    refine o_goto X2 hx (hb hby d4_12) (pc' := 22) rfl (by decide) ?_
    exact kt
  obtain ⟨T5, h5, X5, e5, W5, st5⟩ := putF X2 hx hZ hown (host := "") (Or.inl (own_w hw 19 rfl)) Via.refl e2 Fw E0 (Or.inl (own_w hw 20 rfl)) (own_w hw 2 rfl) (ty := .int) (by decide) rfl rfl (g := (mkF m 22 #[vr a1, vi (1 : Int32)] [(.int (w ||| (-2147483648 : Int32))), (.ref a1)])) rfl rfl (hb hby d4_22)
  have Fw5 : Fld Z h5 a1 c_0 "weightAndHot" "I" (.int (w ||| (-2147483648 : Int32))) := Fld.same W5 Fw
  have K6 : Keep h0 h5 [a1] := K0.wr W5 (Or.inl (List.mem_of_getElem? (i := 0) rfl))
  have Z6 : n0 ≤ h5.size := Nat.le_trans Z0 (Keep.of_wr W5).1
  have N5 := Fr.snoc X5 N0 g1
  have go7 : Go p e below s₁ F0 T5 (mkF m 25 #[vr a1, vi (1 : Int32)] []) := fun t k => go4 t (st5 t k)
  obtain ⟨fs, hr, hrun, hended, hW, hsame⟩ := X5.leave (v := none) (fun _ => rfl)
  refine ⟨_, _, pre0 _ (go7 _ ?_), hrun, hended, _, _, rfl, ?_, ⟨_, rfl⟩, hW, hsame.mono (by decide) (by decide)⟩
  · skip
    exact X5.returnOut hx Bd.returns (hb hby d4_25) hr
  · show Q4_1 Z a1 w h0 n0 _ T5.heap _
    rw [e5]
    exact ⟨rfl, N5, K6, Fw5⟩

theorem d5_0 : decode prog_18_method_2_code 0 = .ok (.aload_n 0, 1) := by decide +kernel
theorem d5_1 : decode prog_18_method_2_code 1 = .ok (.getfield 16, 3) := by decide +kernel
theorem d5_4 : decode prog_18_method_2_code 4 = .ok (.ldc 22, 2) := by decide +kernel
theorem d5_6 : decode prog_18_method_2_code 6 = .ok (.iand, 1) := by decide +kernel
theorem d5_7 : decode prog_18_method_2_code 7 = .ok (.ireturn, 1) := by decide +kernel
theorem pn_5 : plainName "com/example/larder/larder/Node" = true := by first | (simp [plainName, overriddenIn]; done) | decide +kernel
theorem ef_5 (m : MethodId) (x0 : Addr) : entryFrame m #[(.ref x0)] 1 = mkF m 0 #[vr x0] [] := by first | (simp [entryFrame, mkF, argsToLocals, Value.category]; done) | rfl
def Q5 (Z : State) (a1 : Addr) (w : Int32) (h0 : Heap) (n0 : Nat) (v : Option Value) (h : Heap) (L : List Loc) : Prop := v = some (.int (w &&& (2147483647 : Int32))) ∧ Fr n0 L ∧ h = h0
set_option maxRecDepth 65536 in
set_option maxHeartbeats 40000000 in
theorem rm5 (l : Launch) (Z : State) (a0 : Array Value) (hw : ∀ d ∈ tables_1, d.before a0 Z = true) (ws : List Jvm.Cond) (a1 : Addr) (w : Int32) (h0 : Heap) (n0 : Nat) (Z0 : n0 ≤ h0.size) (Fw : Fld Z h0 a1 c_0 "weightAndHot" "I" (.int w)) :
    MetFree l y_3 (head1 (Jvm.Cond.code y_3 prog_18_method_2_code 1 (some .int) :: ws) ({ frames := 0, cells := 0, slots := 0, locals := 0 } : Room)) (fun a U => a = #[(.ref a1)] ∧ Z.Warmed39 U.vm ∧ U.heap = h0) (fun _ _ _ _ _ => True) (fun _ U o U' => ∃ v L, o = .returned v ∧ Q5 Z a1 w h0 n0 v U'.heap L ∧ FrameEnd U o U' L ({ frames := 0, cells := 0, slots := 0, locals := 0 } : Room).cells ({ frames := 0, cells := 0, slots := 0, locals := 0 } : Room).slots) := by
  refine MetFree.of_bodySF (plainFor_of_name pn_5) hisR ?_
  intro p e s m args below meth c s₁ Bd hml0 hP hK
  obtain ⟨rfl, hZ, hh⟩ := hP
  have hx := Bd.exec
  have hby := Bd.bytes
  have hml : c.maxLocals = 1 := hml0
  have hown : s.vm.findClass "com/example/larder/larder/Node" = some m.cls := findClass_of_methodNamed Bd.named
  have hnm := (name_of_methodNamed Bd.named Bd.method).1
  have X0 : Stand p l e ({ frames := 0, cells := 0, slots := 0, locals := 0 } : Room) s m #[(.ref a1)] below meth c s₁ [] 0 0 := Stand.of_body Bd
  have e0 : s₁.heap = h0 := by rw [← hh, Bd.state]; rfl
  have N0 := Fr.nil n0
  obtain ⟨F0, hF0⟩ : ∃ F : JFrame, F = entryFrame m #[(.ref a1)] 1 := ⟨_, rfl⟩
  have pre0 : ∀ t, Steps p.tables e below (s₁.setTop F0) t → Steps p.tables e below (s₁.setTop (entryFrame m #[(.ref a1)] 1)) t := fun t k => hF0 ▸ k
  have go0 : Go p e below s₁ F0 s₁ (mkF m 0 #[vr a1] []) := fun t k => castTop (hF0.trans (ef_5 m a1)) k
  have go1 : Go p e below s₁ F0 s₁ (mkF m 1 #[vr a1] [(.ref a1)]) := by
    intro t kt
    refine go0 t ?_
    refine o_aloadN X0 hx (hb hby d5_0) rfl rfl ?_
    exact kt
  obtain ⟨T2, X2, e2, st2⟩ := getF X0 hx hZ hown (host := "") (Or.inl (own_w hw 19 rfl)) Via.refl e0 Fw (g := (mkF m 1 #[vr a1] [(.ref a1)])) rfl rfl (hb hby d5_1)
  have go3 : Go p e below s₁ F0 T2 (mkF m 4 #[vr a1] [(.int w)]) := fun t k => go1 t (st2 t k)
  have go4 : Go p e below s₁ F0 T2 (mkF m 7 #[vr a1] [(.int (w &&& (2147483647 : Int32)))]) := by
    intro t kt
    refine go3 t ?_
    refine o_ldc X2 hx hown (mvT hZ (own_w hw 27 rfl)) (hb hby d5_4) ?_
    refine o_iand X2 hx (hb hby d5_6) ?_
    exact kt
  obtain ⟨fs, hr, hrun, hended, hW, hsame⟩ := X2.leave (v := some (.int (w &&& (2147483647 : Int32)))) (fun h => by rw [Bd.returns] at h; cases h)
  refine ⟨_, _, pre0 _ (go4 _ ?_), hrun, hended, _, _, rfl, ?_, ⟨_, rfl⟩, hW, hsame.mono (by decide) (by decide)⟩
  · skip
    exact retI X2 hx Bd.returns (hb hby d5_7) hr
  · show Q5 Z a1 w h0 n0 _ T2.heap _
    rw [e2]
    exact ⟨rfl, N0, rfl⟩

theorem d6_0 : decode prog_18_method_4_code 0 = .ok (.aload_n 0, 1) := by decide +kernel
theorem d6_1 : decode prog_18_method_4_code 1 = .ok (.getfield 16, 3) := by decide +kernel
theorem d6_4 : decode prog_18_method_4_code 4 = .ok (.ifCond .ge 7, 3) := by decide +kernel
theorem d6_11 : decode prog_18_method_4_code 11 = .ok (.iconst 0, 1) := by decide +kernel
theorem d6_12 : decode prog_18_method_4_code 12 = .ok (.ireturn, 1) := by decide +kernel
theorem pn_6_0 : plainName "com/example/larder/larder/Node" = true := by first | (simp [plainName, overriddenIn]; done) | decide +kernel
theorem ef_6_0 (m : MethodId) (x0 : Addr) : entryFrame m #[(.ref x0)] 1 = mkF m 0 #[vr x0] [] := by first | (simp [entryFrame, mkF, argsToLocals, Value.category]; done) | rfl
def Q6_0 (Z : State) (a1 : Addr) (w : Int32) (h0 : Heap) (n0 : Nat) (v : Option Value) (h : Heap) (L : List Loc) : Prop := v = some (.int (0 : Int32)) ∧ Fr n0 L ∧ h = h0
set_option maxRecDepth 65536 in
set_option maxHeartbeats 40000000 in
theorem rm6_0 (l : Launch) (Z : State) (a0 : Array Value) (hw : ∀ d ∈ tables_1, d.before a0 Z = true) (ws : List Jvm.Cond) (a1 : Addr) (w : Int32) (h0 : Heap) (n0 : Nat) (Z0 : n0 ≤ h0.size) (Fw : Fld Z h0 a1 c_0 "weightAndHot" "I" (.int w)) (hs : ¬ w < (0 : Int32)) :
    MetFree l y_4 (head1 (Jvm.Cond.code y_4 prog_18_method_4_code 1 (some .boolean) :: ws) ({ frames := 0, cells := 0, slots := 0, locals := 0 } : Room)) (fun a U => a = #[(.ref a1)] ∧ Z.Warmed39 U.vm ∧ U.heap = h0) (fun _ _ _ _ _ => True) (fun _ U o U' => ∃ v L, o = .returned v ∧ Q6_0 Z a1 w h0 n0 v U'.heap L ∧ FrameEnd U o U' L ({ frames := 0, cells := 0, slots := 0, locals := 0 } : Room).cells ({ frames := 0, cells := 0, slots := 0, locals := 0 } : Room).slots) := by
  refine MetFree.of_bodySF (plainFor_of_name pn_6_0) hisR ?_
  intro p e s m args below meth c s₁ Bd hml0 hP hK
  obtain ⟨rfl, hZ, hh⟩ := hP
  have hx := Bd.exec
  have hby := Bd.bytes
  have hml : c.maxLocals = 1 := hml0
  have hown : s.vm.findClass "com/example/larder/larder/Node" = some m.cls := findClass_of_methodNamed Bd.named
  have hnm := (name_of_methodNamed Bd.named Bd.method).1
  have X0 : Stand p l e ({ frames := 0, cells := 0, slots := 0, locals := 0 } : Room) s m #[(.ref a1)] below meth c s₁ [] 0 0 := Stand.of_body Bd
  have e0 : s₁.heap = h0 := by rw [← hh, Bd.state]; rfl
  have N0 := Fr.nil n0
  obtain ⟨F0, hF0⟩ : ∃ F : JFrame, F = entryFrame m #[(.ref a1)] 1 := ⟨_, rfl⟩
  have pre0 : ∀ t, Steps p.tables e below (s₁.setTop F0) t → Steps p.tables e below (s₁.setTop (entryFrame m #[(.ref a1)] 1)) t := fun t k => hF0 ▸ k
  have go0 : Go p e below s₁ F0 s₁ (mkF m 0 #[vr a1] []) := fun t k => castTop (hF0.trans (ef_6_0 m a1)) k
  have go1 : Go p e below s₁ F0 s₁ (mkF m 1 #[vr a1] [(.ref a1)]) := by
    intro t kt
    refine go0 t ?_
    refine o_aloadN X0 hx (hb hby d6_0) rfl rfl ?_
    exact kt
  obtain ⟨T2, X2, e2, st2⟩ := getF X0 hx hZ hown (host := "") (Or.inl (own_w hw 19 rfl)) Via.refl e0 Fw (g := (mkF m 1 #[vr a1] [(.ref a1)])) rfl rfl (hb hby d6_1)
  have go3 : Go p e below s₁ F0 T2 (mkF m 4 #[vr a1] [(.int w)]) := fun t k => go1 t (st2 t k)
  have go4 : Go p e below s₁ F0 T2 (mkF m 12 #[vr a1] [(.int (0 : Int32))]) := by
    intro t kt
    refine go3 t ?_
    refine o_ifYes X2 hx (hb hby d6_4) (pc' := 11) rfl (by decide) ((if0 _ _).trans (flt hs).2.1) ?_
    refine o_iconst X2 hx (hb hby d6_11) (v := 0) rfl ?_
    exact kt
  obtain ⟨fs, hr, hrun, hended, hW, hsame⟩ := X2.leave (v := some (.int (0 : Int32))) (fun h => by rw [Bd.returns] at h; cases h)
  refine ⟨_, _, pre0 _ (go4 _ ?_), hrun, hended, _, _, rfl, ?_, ⟨_, rfl⟩, hW, hsame.mono (by decide) (by decide)⟩
  · skip
    exact retN X2 hx (t := .boolean) Bd.returns (by simp) (hb hby d6_12) hr
  · show Q6_0 Z a1 w h0 n0 _ T2.heap _
    rw [e2]
    exact ⟨rfl, N0, rfl⟩

theorem d6_7 : decode prog_18_method_4_code 7 = .ok (.iconst 1, 1) := by decide +kernel
theorem d6_8 : decode prog_18_method_4_code 8 = .ok (.goto 4, 3) := by decide +kernel
theorem pn_6_1 : plainName "com/example/larder/larder/Node" = true := by first | (simp [plainName, overriddenIn]; done) | decide +kernel
theorem ef_6_1 (m : MethodId) (x0 : Addr) : entryFrame m #[(.ref x0)] 1 = mkF m 0 #[vr x0] [] := by first | (simp [entryFrame, mkF, argsToLocals, Value.category]; done) | rfl
def Q6_1 (Z : State) (a1 : Addr) (w : Int32) (h0 : Heap) (n0 : Nat) (v : Option Value) (h : Heap) (L : List Loc) : Prop := v = some (.int (1 : Int32)) ∧ Fr n0 L ∧ h = h0
set_option maxRecDepth 65536 in
set_option maxHeartbeats 40000000 in
theorem rm6_1 (l : Launch) (Z : State) (a0 : Array Value) (hw : ∀ d ∈ tables_1, d.before a0 Z = true) (ws : List Jvm.Cond) (a1 : Addr) (w : Int32) (h0 : Heap) (n0 : Nat) (Z0 : n0 ≤ h0.size) (Fw : Fld Z h0 a1 c_0 "weightAndHot" "I" (.int w)) (hs : w < (0 : Int32)) :
    MetFree l y_4 (head1 (Jvm.Cond.code y_4 prog_18_method_4_code 1 (some .boolean) :: ws) ({ frames := 0, cells := 0, slots := 0, locals := 0 } : Room)) (fun a U => a = #[(.ref a1)] ∧ Z.Warmed39 U.vm ∧ U.heap = h0) (fun _ _ _ _ _ => True) (fun _ U o U' => ∃ v L, o = .returned v ∧ Q6_1 Z a1 w h0 n0 v U'.heap L ∧ FrameEnd U o U' L ({ frames := 0, cells := 0, slots := 0, locals := 0 } : Room).cells ({ frames := 0, cells := 0, slots := 0, locals := 0 } : Room).slots) := by
  refine MetFree.of_bodySF (plainFor_of_name pn_6_1) hisR ?_
  intro p e s m args below meth c s₁ Bd hml0 hP hK
  obtain ⟨rfl, hZ, hh⟩ := hP
  have hx := Bd.exec
  have hby := Bd.bytes
  have hml : c.maxLocals = 1 := hml0
  have hown : s.vm.findClass "com/example/larder/larder/Node" = some m.cls := findClass_of_methodNamed Bd.named
  have hnm := (name_of_methodNamed Bd.named Bd.method).1
  have X0 : Stand p l e ({ frames := 0, cells := 0, slots := 0, locals := 0 } : Room) s m #[(.ref a1)] below meth c s₁ [] 0 0 := Stand.of_body Bd
  have e0 : s₁.heap = h0 := by rw [← hh, Bd.state]; rfl
  have N0 := Fr.nil n0
  obtain ⟨F0, hF0⟩ : ∃ F : JFrame, F = entryFrame m #[(.ref a1)] 1 := ⟨_, rfl⟩
  have pre0 : ∀ t, Steps p.tables e below (s₁.setTop F0) t → Steps p.tables e below (s₁.setTop (entryFrame m #[(.ref a1)] 1)) t := fun t k => hF0 ▸ k
  have go0 : Go p e below s₁ F0 s₁ (mkF m 0 #[vr a1] []) := fun t k => castTop (hF0.trans (ef_6_1 m a1)) k
  have go1 : Go p e below s₁ F0 s₁ (mkF m 1 #[vr a1] [(.ref a1)]) := by
    intro t kt
    refine go0 t ?_
    refine o_aloadN X0 hx (hb hby d6_0) rfl rfl ?_
    exact kt
  obtain ⟨T2, X2, e2, st2⟩ := getF X0 hx hZ hown (host := "") (Or.inl (own_w hw 19 rfl)) Via.refl e0 Fw (g := (mkF m 1 #[vr a1] [(.ref a1)])) rfl rfl (hb hby d6_1)
  have go3 : Go p e below s₁ F0 T2 (mkF m 4 #[vr a1] [(.int w)]) := fun t k => go1 t (st2 t k)
  have go4 : Go p e below s₁ F0 T2 (mkF m 12 #[vr a1] [(.int (1 : Int32))]) := by
    intro t kt
    refine go3 t ?_
    refine o_ifNo X2 hx (hb hby d6_4) ((if0 _ _).trans (tlt hs).2.1) ?_
    refine o_iconst X2 hx (hb hby d6_7) (v := 1) rfl ?_
    refine o_goto X2 hx (hb hby d6_8) (pc' := 12) rfl (by decide) ?_
    exact kt
  obtain ⟨fs, hr, hrun, hended, hW, hsame⟩ := X2.leave (v := some (.int (1 : Int32))) (fun h => by rw [Bd.returns] at h; cases h)
  refine ⟨_, _, pre0 _ (go4 _ ?_), hrun, hended, _, _, rfl, ?_, ⟨_, rfl⟩, hW, hsame.mono (by decide) (by decide)⟩
  · skip
    exact retN X2 hx (t := .boolean) Bd.returns (by simp) (hb hby d6_12) hr
  · show Q6_1 Z a1 w h0 n0 _ T2.heap _
    rw [e2]
    exact ⟨rfl, N0, rfl⟩

theorem own_max (i : Nat) (h : i < 32) : (2147483647 : Int32).toBitVec.getLsbD i = decide (i ≠ 31) := by
  have q : ∀ j : Fin 32, (2147483647 : Int32).toBitVec.getLsbD j.1 = decide (j.1 ≠ 31) := by decide
  exact q ⟨i, h⟩
theorem own_min (i : Nat) (h : i < 32) : (-2147483648 : Int32).toBitVec.getLsbD i = decide (i = 31) := by
  have q : ∀ j : Fin 32, (-2147483648 : Int32).toBitVec.getLsbD j.1 = decide (j.1 = 31) := by decide
  exact q ⟨i, h⟩
theorem own_zero (i : Nat) : (0 : Int32).toBitVec.getLsbD i = false := by
  show (0#32).getLsbD i = false
  simp
theorem own_bits (x y : Int32) (h : ∀ i, i < 32 → x.toBitVec.getLsbD i = y.toBitVec.getLsbD i) : x = y := by
  apply Int32.toBitVec_inj.mp
  exact BitVec.eq_of_getLsbD_eq h
theorem own_sign (x : Int32) : x < (0 : Int32) ↔ x.toBitVec.getLsbD 31 = true := by
  rw [Int32.lt_iff_toInt_lt, show (0 : Int32).toInt = 0 from rfl]
  show x.toBitVec.toInt < 0 ↔ _
  have h : x.toBitVec.msb = x.toBitVec.getLsbD 31 := by rw [BitVec.msb_eq_getLsbD_last]
  rw [← h, BitVec.msb_eq_toInt]
  simp

theorem pn_0 : plainName "com/example/larder/larder/NodeSetWeightPinLaw" = true := by first | (simp [plainName, overriddenIn]; done) | decide +kernel
theorem pd0_0 : parseMethodDescriptor "(Ljava/lang/Object;Ljava/lang/Object;)V" = some ⟨[(.object "java/lang/Object"), (.object "java/lang/Object")], none⟩ := by decide +kernel
theorem pd0_1 : parseMethodDescriptor "(I)V" = some ⟨[.int], none⟩ := by decide +kernel
theorem pd0_2 : parseMethodDescriptor "(Z)V" = some ⟨[.boolean], none⟩ := by decide +kernel
theorem pd0_3 : parseMethodDescriptor "()I" = some ⟨[], some .int⟩ := by decide +kernel
theorem pd0_4 : parseMethodDescriptor "()Z" = some ⟨[], some .boolean⟩ := by decide +kernel
theorem ef_0 (m : MethodId) (x0 : Int32) (x1 : Int32) (x2 : Int32) : entryFrame m #[(.int x0), (.int x1), (.int x2)] maxLocals = mkF m 0 #[vi x0, vi x1, vi x2, .unset, .unset, .unset, .unset] [] := by first | (simp [entryFrame, mkF, argsToLocals, Value.category, maxLocals]; done) | rfl
def Q0 (Z : State) (p1 : Int32) (p2 : Int32) (p3 : Int32) (h0 : Heap) (n0 : Nat) (v : Option Value) (h : Heap) (L : List Loc) : Prop := v = some (.int (1 : Int32)) ∧ Fr n0 L
set_option maxRecDepth 65536 in
set_option maxHeartbeats 40000000 in
theorem rm0 (l : Launch) (Z : State) (a0 : Array Value) (hw : ∀ d ∈ tables_1, d.before a0 Z = true) (ws : List Jvm.Cond) (p1 : Int32) (p2 : Int32) (p3 : Int32) (h0 : Heap) (n0 : Nat) (Z0 : n0 ≤ h0.size) :
    MetFree l x (head1 (Jvm.Cond.code x code maxLocals ret :: ws) room_1) (fun a U => a = #[(.int p1), (.int p2), (.int p3)] ∧ Z.Warmed39 U.vm ∧ U.heap = h0) (fun _ _ _ _ _ => True) (fun _ U o U' => ∃ v L, o = .returned v ∧ Q0 Z p1 p2 p3 h0 n0 v U'.heap L ∧ FrameEnd U o U' L room_1.cells room_1.slots) := by
  refine MetFree.of_bodySF (plainFor_of_name pn_0) hisR ?_
  intro p e s m args below meth c s₁ Bd hml0 hP hK
  obtain ⟨rfl, hZ, hh⟩ := hP
  have hx := Bd.exec
  have hby := Bd.bytes
  have hml : c.maxLocals = 7 := hml0
  have hown : s.vm.findClass "com/example/larder/larder/NodeSetWeightPinLaw" = some m.cls := findClass_of_methodNamed Bd.named
  have hnm := (name_of_methodNamed Bd.named Bd.method).1
  have X0 : Stand p l e room_1 s m #[(.int p1), (.int p2), (.int p3)] below meth c s₁ [] 0 0 := Stand.of_body Bd
  have e0 : s₁.heap = h0 := by rw [← hh, Bd.state]; rfl
  have N0 := Fr.nil n0
  obtain ⟨F0, hF0⟩ : ∃ F : JFrame, F = entryFrame m #[(.int p1), (.int p2), (.int p3)] maxLocals := ⟨_, rfl⟩
  have pre0 : ∀ t, Steps p.tables e below (s₁.setTop F0) t → Steps p.tables e below (s₁.setTop (entryFrame m #[(.int p1), (.int p2), (.int p3)] maxLocals)) t := fun t k => hF0 ▸ k
  have go0 : Go p e below s₁ F0 s₁ (mkF m 0 #[vi p1, vi p2, vi p3, .unset, .unset, .unset, .unset] []) := fun t k => castTop (hF0.trans (ef_0 m p1 p2 p3)) k
  have go1 : Go p e below s₁ F0 s₁ (mkF m 14 #[vi p1, vi p2, vi p3, vi (p1 &&& (2147483647 : Int32)), vi (p2 &&& (2147483647 : Int32)), .unset, .unset] [(.int (p3 &&& (1 : Int32)))]) := by
    intro t kt
    refine go0 t ?_
    refine o_iloadN X0 hx (hb hby at_0) rfl ?_
    refine o_ldc X0 hx hown (mvT hZ (own_w hw 0 rfl)) (hb hby at_1) ?_
    refine o_iand X0 hx (hb hby at_3) ?_
    refine o_istoreN X0 hx (hb hby at_4) (L' := #[vi p1, vi p2, vi p3, vi (p1 &&& (2147483647 : Int32)), .unset, .unset, .unset]) rfl ?_
    refine o_iloadN X0 hx (hb hby at_5) rfl ?_
    refine o_ldc X0 hx hown (mvT hZ (own_w hw 0 rfl)) (hb hby at_6) ?_
    refine o_iand X0 hx (hb hby at_8) ?_
    refine o_istore X0 hx (hb hby at_9) (L' := #[vi p1, vi p2, vi p3, vi (p1 &&& (2147483647 : Int32)), vi (p2 &&& (2147483647 : Int32)), .unset, .unset]) rfl ?_
    refine o_iloadN X0 hx (hb hby at_11) rfl ?_
    refine o_iconst X0 hx (hb hby at_12) (v := 1) rfl ?_
    refine o_iand X0 hx (hb hby at_13) ?_
    exact kt
  by_cases hc14_2 : (p3 &&& (1 : Int32)) = (0 : Int32)
  · skip
    have go3 : Go p e below s₁ F0 s₁ (mkF m 24 #[vi p1, vi p2, vi p3, vi (p1 &&& (2147483647 : Int32)), vi (p2 &&& (2147483647 : Int32)), vi (0 : Int32), .unset] []) := by
      intro t kt
      refine go1 t ?_
      refine o_ifYes X0 hx (hb hby at_14) (pc' := 21) rfl (by decide) ((if0 _ _).trans (teq hc14_2).1) ?_
      refine o_iconst X0 hx (hb hby at_21) (v := 0) rfl ?_
      refine o_istore X0 hx (hb hby at_22) (L' := #[vi p1, vi p2, vi p3, vi (p1 &&& (2147483647 : Int32)), vi (p2 &&& (2147483647 : Int32)), vi (0 : Int32), .unset]) rfl ?_
      exact kt
    obtain ⟨T4, h4, X4, e4, E4, A4, D4, -, st4⟩ := newO X0 hx hZ hown (own_w hw 1 rfl) (own_w hw 2 rfl) (own_w hw 3 rfl) e0 (g := (mkF m 24 #[vi p1, vi p2, vi p3, vi (p1 &&& (2147483647 : Int32)), vi (p2 &&& (2147483647 : Int32)), vi (0 : Int32), .unset] [])) rfl (hb hby at_24) (by decide) (by decide)
    obtain ⟨b4, gz4⟩ : ∃ z, z = h0.size := ⟨_, rfl⟩
    rw [← gz4] at A4 D4 st4
    have g_b4 : n0 ≤ b4 := Nat.le_trans Z0 (Nat.le_of_eq gz4.symm)
    have Z5 : n0 ≤ h4.size := Nat.le_trans Z0 E4.1
    have F6 : Fld Z h4 b4 c_0 "key" "Ljava/lang/Object;" .null := D4 (Or.inr (own_w hw 11 rfl)) (ty := (.object "java/lang/Object")) (by decide)
    have F7 : Fld Z h4 b4 c_0 "value" "Ljava/lang/Object;" .null := D4 (Or.inl (own_w hw 13 rfl)) (ty := (.object "java/lang/Object")) (by decide)
    have F8 : Fld Z h4 b4 c_0 "weightAndHot" "I" (.int (0 : Int32)) := D4 (Or.inl (own_w hw 20 rfl)) (ty := .int) (by decide)
    have go9 : Go p e below s₁ F0 T4 (mkF m 27 #[vi p1, vi p2, vi p3, vi (p1 &&& (2147483647 : Int32)), vi (p2 &&& (2147483647 : Int32)), vi (0 : Int32), .unset] [(.ref b4)]) := fun t k => go3 t (st4 t k)
    have go10 : Go p e below s₁ F0 T4 (mkF m 30 #[vi p1, vi p2, vi p3, vi (p1 &&& (2147483647 : Int32)), vi (p2 &&& (2147483647 : Int32)), vi (0 : Int32), .unset] [.null, .null, (.ref b4), (.ref b4)]) := by
      intro t kt
      refine go9 t ?_
      refine o_dup X4 hx (hb hby at_27) rfl ?_
      refine o_null X4 hx (hb hby at_28) ?_
      refine o_null X4 hx (hb hby at_29) ?_
      exact kt
    obtain ⟨_, _, ⟨T11, L11, k11, n11⟩, -, X11, ⟨Lc11, hQ11, l11, y11, z11⟩, st11⟩ := X4.specialBack hx (y := y_0) rfl hown (mvT hZ (own_w hw 4 rfl)) (mvT hZ (own_w hw 5 rfl)) (mvT hZ (own_w hw 6 rfl)) (by decide) (backOf (W := 1) (rm1 l Z a0 hw [] b4 h4 n0 Z5 A4 F6 F7 F8 g_b4) hZ (own_w hw 6 rfl) (own_w hw 3 rfl) (by decide) (by decide)) (g := (mkF m 30 #[vi p1, vi p2, vi p3, vi (p1 &&& (2147483647 : Int32)), vi (p2 &&& (2147483647 : Int32)), vi (0 : Int32), .unset] [.null, .null, (.ref b4), (.ref b4)])) rfl (by rw [hml]; rfl) (Steps.refl _) (a := b4) (argsL := [.null, .null]) (rest := [(.ref b4)]) (lenOf pd0_0 rfl) rfl (by show 2 * 0 + _ ≤ _; exact Nat.le_of_eq rfl) (hb hby at_30) (fun _ _ => ⟨rfl, e4, (by decide : 1 + 0 ≤ _), (by decide : 5 + 0 ≤ _)⟩)
    dsimp only [Pt.U, Pt.locs, Pt.cells, Pt.slots] at X11 l11 y11 z11 st11 hQ11
    subst l11 y11 z11
    obtain ⟨rfl, Nq11, Kc11, E_11, Fw_11⟩ := hQ11
    have N11 := Fr.app N0 Nq11
    have Z12 : n0 ≤ T11.heap.size := Nat.le_trans Z5 Kc11.1
    have go13 : Go p e below s₁ F0 T11 (mkF m 33 #[vi p1, vi p2, vi p3, vi (p1 &&& (2147483647 : Int32)), vi (p2 &&& (2147483647 : Int32)), vi (0 : Int32), .unset] [(.ref b4)]) := fun t k => go10 t (st11.trans k)
    have go14 : Go p e below s₁ F0 T11 (mkF m 38 #[vi p1, vi p2, vi p3, vi (p1 &&& (2147483647 : Int32)), vi (p2 &&& (2147483647 : Int32)), vi (0 : Int32), vr b4] [(.int (p1 &&& (2147483647 : Int32))), (.ref b4)]) := by
      intro t kt
      refine go13 t ?_
      refine o_astore X11 hx (hb hby at_33) rfl (L' := #[vi p1, vi p2, vi p3, vi (p1 &&& (2147483647 : Int32)), vi (p2 &&& (2147483647 : Int32)), vi (0 : Int32), vr b4]) rfl ?_
      refine o_aload X11 hx (hb hby at_35) rfl rfl ?_
      refine o_iloadN X11 hx (hb hby at_37) rfl ?_
      exact kt
    obtain ⟨cq15, kq15, q15a, q15b, q15c⟩ := isOf hZ rfl E_11
    obtain ⟨_, _, ⟨T15, L15, k15, n15⟩, -, X15, ⟨Lc15, hQ15, l15, y15, z15⟩, st15⟩ := X11.virtualBack hx (y := y_1) (z := y_1) hown (mvT hZ (own_w hw 14 rfl)) (mvT hZ (own_w hw 15 rfl)) (notFace_of_selects (args := #[]) (mvT hZ (own_w hw 17 rfl))) (mvT hZ (own_w hw 17 rfl)) (mvT hZ (own_w hw 16 rfl)) (by decide) (backOf (W := 0) (rm3 l Z a0 hw [] b4 (p1 &&& (2147483647 : Int32)) (0 : Int32) (T11.heap) n0 Z12 E_11 Fw_11 g_b4) hZ (own_w hw 18 rfl) (own_w hw 3 rfl) (by decide) (by decide)) q15a q15c (g := (mkF m 38 #[vi p1, vi p2, vi p3, vi (p1 &&& (2147483647 : Int32)), vi (p2 &&& (2147483647 : Int32)), vi (0 : Int32), vr b4] [(.int (p1 &&& (2147483647 : Int32))), (.ref b4)])) rfl (by rw [hml]; rfl) (Steps.refl _) (argsL := [(.int (p1 &&& (2147483647 : Int32)))]) (rest := []) (lenOf pd0_1 rfl) rfl (by show 2 * 0 + _ ≤ _; exact Nat.le_of_eq rfl) (hb hby at_38) (fun _ _ => ⟨rfl, rfl, (by decide : 1 + 0 ≤ _), (by decide : 5 + 0 ≤ _)⟩)
    dsimp only [Pt.U, Pt.locs, Pt.cells, Pt.slots] at X15 l15 y15 z15 st15 hQ15
    subst l15 y15 z15
    obtain ⟨rfl, Nq15, Kc15, Fw_15⟩ := hQ15
    have N15 := Fr.app N11 Nq15
    have Z16 : n0 ≤ T15.heap.size := Nat.le_trans Z12 Kc15.1
    have go17 : Go p e below s₁ F0 T15 (mkF m 41 #[vi p1, vi p2, vi p3, vi (p1 &&& (2147483647 : Int32)), vi (p2 &&& (2147483647 : Int32)), vi (0 : Int32), vr b4] []) := fun t k => go14 t (st15.trans k)
    have F18 : Exa Z T15.heap b4 c_0 := (E_11.keep Kc15)
    have go19 : Go p e below s₁ F0 T15 (mkF m 45 #[vi p1, vi p2, vi p3, vi (p1 &&& (2147483647 : Int32)), vi (p2 &&& (2147483647 : Int32)), vi (0 : Int32), vr b4] [(.int (0 : Int32)), (.ref b4)]) := by
      intro t kt
      refine go17 t ?_
      refine o_aload X15 hx (hb hby at_41) rfl rfl ?_
      refine o_iload X15 hx (hb hby at_43) rfl ?_
      exact kt
    obtain ⟨cq20, kq20, q20a, q20b, q20c⟩ := isOf hZ rfl F18
    obtain ⟨_, _, ⟨T20, L20, k20, n20⟩, -, X20, ⟨Lc20, hQ20, l20, y20, z20⟩, st20⟩ := X15.virtualBack hx (y := y_2) (z := y_2) hown (mvT hZ (own_w hw 22 rfl)) (mvT hZ (own_w hw 23 rfl)) (notFace_of_selects (args := #[]) (mvT hZ (own_w hw 25 rfl))) (mvT hZ (own_w hw 25 rfl)) (mvT hZ (own_w hw 24 rfl)) (by decide) (backOf (W := 0) (rm4_0 l Z a0 hw [] b4 (((0 : Int32) &&& (-2147483648 : Int32)) ||| (p1 &&& (2147483647 : Int32))) (T15.heap) n0 Z16 F18 Fw_15 g_b4) hZ (own_w hw 26 rfl) (own_w hw 3 rfl) (by decide) (by decide)) q20a q20c (g := (mkF m 45 #[vi p1, vi p2, vi p3, vi (p1 &&& (2147483647 : Int32)), vi (p2 &&& (2147483647 : Int32)), vi (0 : Int32), vr b4] [(.int (0 : Int32)), (.ref b4)])) rfl (by rw [hml]; rfl) (Steps.refl _) (argsL := [(.int (0 : Int32))]) (rest := []) (lenOf pd0_2 rfl) rfl (by show 2 * 0 + _ ≤ _; exact Nat.le_of_eq rfl) (hb hby at_45) (fun _ _ => ⟨rfl, rfl, (by decide : 1 + 0 ≤ _), (by decide : 5 + 0 ≤ _)⟩)
    dsimp only [Pt.U, Pt.locs, Pt.cells, Pt.slots] at X20 l20 y20 z20 st20 hQ20
    subst l20 y20 z20
    obtain ⟨rfl, Nq20, Kc20, Fw_20⟩ := hQ20
    have N20 := Fr.app N15 Nq20
    have Z21 : n0 ≤ T20.heap.size := Nat.le_trans Z16 Kc20.1
    have go22 : Go p e below s₁ F0 T20 (mkF m 48 #[vi p1, vi p2, vi p3, vi (p1 &&& (2147483647 : Int32)), vi (p2 &&& (2147483647 : Int32)), vi (0 : Int32), vr b4] []) := fun t k => go19 t (st20.trans k)
    have F23 : Exa Z T20.heap b4 c_0 := (F18.keep Kc20)
    have go24 : Go p e below s₁ F0 T20 (mkF m 52 #[vi p1, vi p2, vi p3, vi (p1 &&& (2147483647 : Int32)), vi (p2 &&& (2147483647 : Int32)), vi (0 : Int32), vr b4] [(.int (p2 &&& (2147483647 : Int32))), (.ref b4)]) := by
      intro t kt
      refine go22 t ?_
      refine o_aload X20 hx (hb hby at_48) rfl rfl ?_
      refine o_iload X20 hx (hb hby at_50) rfl ?_
      exact kt
    obtain ⟨cq25, kq25, q25a, q25b, q25c⟩ := isOf hZ rfl F23
    obtain ⟨_, _, ⟨T25, L25, k25, n25⟩, -, X25, ⟨Lc25, hQ25, l25, y25, z25⟩, st25⟩ := X20.virtualBack hx (y := y_1) (z := y_1) hown (mvT hZ (own_w hw 14 rfl)) (mvT hZ (own_w hw 15 rfl)) (notFace_of_selects (args := #[]) (mvT hZ (own_w hw 17 rfl))) (mvT hZ (own_w hw 17 rfl)) (mvT hZ (own_w hw 16 rfl)) (by decide) (backOf (W := 0) (rm3 l Z a0 hw [] b4 (p2 &&& (2147483647 : Int32)) ((((0 : Int32) &&& (-2147483648 : Int32)) ||| (p1 &&& (2147483647 : Int32))) &&& (2147483647 : Int32)) (T20.heap) n0 Z21 F23 Fw_20 g_b4) hZ (own_w hw 18 rfl) (own_w hw 3 rfl) (by decide) (by decide)) q25a q25c (g := (mkF m 52 #[vi p1, vi p2, vi p3, vi (p1 &&& (2147483647 : Int32)), vi (p2 &&& (2147483647 : Int32)), vi (0 : Int32), vr b4] [(.int (p2 &&& (2147483647 : Int32))), (.ref b4)])) rfl (by rw [hml]; rfl) (Steps.refl _) (argsL := [(.int (p2 &&& (2147483647 : Int32)))]) (rest := []) (lenOf pd0_1 rfl) rfl (by show 2 * 0 + _ ≤ _; exact Nat.le_of_eq rfl) (hb hby at_52) (fun _ _ => ⟨rfl, rfl, (by decide : 1 + 0 ≤ _), (by decide : 5 + 0 ≤ _)⟩)
    dsimp only [Pt.U, Pt.locs, Pt.cells, Pt.slots] at X25 l25 y25 z25 st25 hQ25
    subst l25 y25 z25
    obtain ⟨rfl, Nq25, Kc25, Fw_25⟩ := hQ25
    have N25 := Fr.app N20 Nq25
    have Z26 : n0 ≤ T25.heap.size := Nat.le_trans Z21 Kc25.1
    have go27 : Go p e below s₁ F0 T25 (mkF m 55 #[vi p1, vi p2, vi p3, vi (p1 &&& (2147483647 : Int32)), vi (p2 &&& (2147483647 : Int32)), vi (0 : Int32), vr b4] []) := fun t k => go24 t (st25.trans k)
    have go28 : Go p e below s₁ F0 T25 (mkF m 57 #[vi p1, vi p2, vi p3, vi (p1 &&& (2147483647 : Int32)), vi (p2 &&& (2147483647 : Int32)), vi (0 : Int32), vr b4] [(.ref b4)]) := by
      intro t kt
      refine go27 t ?_
      refine o_aload X25 hx (hb hby at_55) rfl rfl ?_
      exact kt
    have F30 : Exa Z T25.heap b4 c_0 := (F23.keep Kc25)
    obtain ⟨cq29, kq29, q29a, q29b, q29c⟩ := isOf hZ rfl F30
    obtain ⟨_, _, ⟨T29, L29, k29, n29⟩, -, X29, ⟨Lc29, hQ29, l29, y29, z29⟩, st29⟩ := X25.virtualBack hx (y := y_3) (z := y_3) hown (mvT hZ (own_w hw 28 rfl)) (mvT hZ (own_w hw 29 rfl)) (notFace_of_selects (args := #[]) (mvT hZ (own_w hw 31 rfl))) (mvT hZ (own_w hw 31 rfl)) (mvT hZ (own_w hw 30 rfl)) (by decide) (backOf (W := 0) (rm5 l Z a0 hw [] b4 ((((((0 : Int32) &&& (-2147483648 : Int32)) ||| (p1 &&& (2147483647 : Int32))) &&& (2147483647 : Int32)) &&& (-2147483648 : Int32)) ||| (p2 &&& (2147483647 : Int32))) (T25.heap) n0 Z26 Fw_25) hZ (own_w hw 32 rfl) (own_w hw 3 rfl) (by decide) (by decide)) q29a q29c (g := (mkF m 57 #[vi p1, vi p2, vi p3, vi (p1 &&& (2147483647 : Int32)), vi (p2 &&& (2147483647 : Int32)), vi (0 : Int32), vr b4] [(.ref b4)])) rfl (by rw [hml]; rfl) (Steps.refl _) (argsL := []) (rest := []) (lenOf pd0_3 rfl) rfl (by show 2 * 0 + _ ≤ _; exact Nat.le_of_eq rfl) (hb hby at_57) (fun _ _ => ⟨rfl, rfl, (by decide : 1 + 0 ≤ _), (by decide : 5 + 0 ≤ _)⟩)
    dsimp only [Pt.U, Pt.locs, Pt.cells, Pt.slots] at X29 l29 y29 z29 st29 hQ29
    subst l29 y29 z29
    obtain ⟨rfl, Nq29, eh29⟩ := hQ29
    have N29 := Fr.app N25 Nq29
    have go31 : Go p e below s₁ F0 T29 (mkF m 60 #[vi p1, vi p2, vi p3, vi (p1 &&& (2147483647 : Int32)), vi (p2 &&& (2147483647 : Int32)), vi (0 : Int32), vr b4] [(.int (((((((0 : Int32) &&& (-2147483648 : Int32)) ||| (p1 &&& (2147483647 : Int32))) &&& (2147483647 : Int32)) &&& (-2147483648 : Int32)) ||| (p2 &&& (2147483647 : Int32))) &&& (2147483647 : Int32)))]) := fun t k => go28 t (st29.trans k)
    have go33 : Go p e below s₁ F0 T29 (mkF m 62 #[vi p1, vi p2, vi p3, vi (p1 &&& (2147483647 : Int32)), vi (p2 &&& (2147483647 : Int32)), vi (0 : Int32), vr b4] [(.int (p2 &&& (2147483647 : Int32))), (.int (((((((0 : Int32) &&& (-2147483648 : Int32)) ||| (p1 &&& (2147483647 : Int32))) &&& (2147483647 : Int32)) &&& (-2147483648 : Int32)) ||| (p2 &&& (2147483647 : Int32))) &&& (2147483647 : Int32)))]) := by
      intro t kt
      refine go31 t ?_
      refine o_iload X29 hx (hb hby at_60) rfl ?_
      exact kt
    have hd32 : (((((((0 : Int32) &&& (-2147483648 : Int32)) ||| (p1 &&& (2147483647 : Int32))) &&& (2147483647 : Int32)) &&& (-2147483648 : Int32)) ||| (p2 &&& (2147483647 : Int32))) &&& (2147483647 : Int32)) = (p2 &&& (2147483647 : Int32)) := (own_bits _ _ fun i hi => by simp only [Int32.toBitVec_and, Int32.toBitVec_or, BitVec.getLsbD_and, BitVec.getLsbD_or, own_max i hi, own_min i hi, own_zero i]; by_cases q : i = 31 <;> simp [q])
    have go34 : Go p e below s₁ F0 T29 (mkF m 67 #[vi p1, vi p2, vi p3, vi (p1 &&& (2147483647 : Int32)), vi (p2 &&& (2147483647 : Int32)), vi (0 : Int32), vr b4] [(.ref b4)]) := by
      intro t kt
      refine go33 t ?_
      refine o_icmpNo X29 hx (hb hby at_62) (teq hd32).2 ?_
      refine o_aload X29 hx (hb hby at_65) rfl rfl ?_
      exact kt
    obtain ⟨cq35, kq35, q35a, q35b, q35c⟩ := isOf hZ eh29 F30
    obtain ⟨_, _, ⟨T35, L35, k35, n35⟩, -, X35, ⟨Lc35, hQ35, l35, y35, z35⟩, st35⟩ := X29.virtualBack hx (y := y_4) (z := y_4) hown (mvT hZ (own_w hw 33 rfl)) (mvT hZ (own_w hw 34 rfl)) (notFace_of_selects (args := #[]) (mvT hZ (own_w hw 36 rfl))) (mvT hZ (own_w hw 36 rfl)) (mvT hZ (own_w hw 35 rfl)) (by decide) (backOf (W := 0) (rm6_0 l Z a0 hw [] b4 ((((((0 : Int32) &&& (-2147483648 : Int32)) ||| (p1 &&& (2147483647 : Int32))) &&& (2147483647 : Int32)) &&& (-2147483648 : Int32)) ||| (p2 &&& (2147483647 : Int32))) (T25.heap) n0 Z26 Fw_25 (by rw [own_sign]; simp only [Int32.toBitVec_and, Int32.toBitVec_or, BitVec.getLsbD_and, BitVec.getLsbD_or, own_max 31 (by decide), own_min 31 (by decide), own_zero 31]; simp)) hZ (own_w hw 37 rfl) (own_w hw 3 rfl) (by decide) (by decide)) q35a q35c (g := (mkF m 67 #[vi p1, vi p2, vi p3, vi (p1 &&& (2147483647 : Int32)), vi (p2 &&& (2147483647 : Int32)), vi (0 : Int32), vr b4] [(.ref b4)])) rfl (by rw [hml]; rfl) (Steps.refl _) (argsL := []) (rest := []) (lenOf pd0_4 rfl) rfl (by show 2 * 0 + _ ≤ _; exact Nat.le_of_eq rfl) (hb hby at_67) (fun _ _ => ⟨rfl, eh29, (by decide : 1 + 0 ≤ _), (by decide : 5 + 0 ≤ _)⟩)
    dsimp only [Pt.U, Pt.locs, Pt.cells, Pt.slots] at X35 l35 y35 z35 st35 hQ35
    subst l35 y35 z35
    obtain ⟨rfl, Nq35, eh35⟩ := hQ35
    have N35 := Fr.app N29 Nq35
    have go36 : Go p e below s₁ F0 T35 (mkF m 70 #[vi p1, vi p2, vi p3, vi (p1 &&& (2147483647 : Int32)), vi (p2 &&& (2147483647 : Int32)), vi (0 : Int32), vr b4] [(.int (0 : Int32))]) := fun t k => go34 t (st35.trans k)
    have go37 : Go p e below s₁ F0 T35 (mkF m 80 #[vi p1, vi p2, vi p3, vi (p1 &&& (2147483647 : Int32)), vi (p2 &&& (2147483647 : Int32)), vi (0 : Int32), vr b4] [(.int (1 : Int32))]) := by
      intro t kt
      refine go36 t ?_
      refine o_iload X35 hx (hb hby at_70) rfl ?_
      refine o_icmpNo X35 hx (hb hby at_72) (teq (by decide : (0 : Int32) = (0 : Int32))).2 ?_
      refine o_iconst X35 hx (hb hby at_75) (v := 1) rfl ?_
      refine o_goto X35 hx (hb hby at_76) (pc' := 80) rfl (by decide) ?_
      exact kt
    obtain ⟨fs, hr, hrun, hended, hW, hsame⟩ := X35.leave (v := some (.int (1 : Int32))) (fun h => by rw [Bd.returns] at h; cases h)
    refine ⟨_, _, pre0 _ (go37 _ ?_), hrun, hended, _, _, rfl, ?_, ⟨_, rfl⟩, hW, hsame.mono (by decide) (by decide)⟩
    · skip
      exact retN X35 hx (t := .boolean) Bd.returns (by simp) (hb hby at_80) hr
    · show Q0 Z p1 p2 p3 h0 n0 _ T35.heap _
      rw [eh35]
      exact ⟨rfl, N35⟩
  · skip
    have go38 : Go p e below s₁ F0 s₁ (mkF m 24 #[vi p1, vi p2, vi p3, vi (p1 &&& (2147483647 : Int32)), vi (p2 &&& (2147483647 : Int32)), vi (1 : Int32), .unset] []) := by
      intro t kt
      refine go1 t ?_
      refine o_ifNo X0 hx (hb hby at_14) ((if0 _ _).trans (feq hc14_2).1) ?_
      refine o_iconst X0 hx (hb hby at_17) (v := 1) rfl ?_
      refine o_goto X0 hx (hb hby at_18) (pc' := 22) rfl (by decide) ?_
      refine o_istore X0 hx (hb hby at_22) (L' := #[vi p1, vi p2, vi p3, vi (p1 &&& (2147483647 : Int32)), vi (p2 &&& (2147483647 : Int32)), vi (1 : Int32), .unset]) rfl ?_
      exact kt
    obtain ⟨T39, h39, X39, e39, E39, A39, D39, -, st39⟩ := newO X0 hx hZ hown (own_w hw 1 rfl) (own_w hw 2 rfl) (own_w hw 3 rfl) e0 (g := (mkF m 24 #[vi p1, vi p2, vi p3, vi (p1 &&& (2147483647 : Int32)), vi (p2 &&& (2147483647 : Int32)), vi (1 : Int32), .unset] [])) rfl (hb hby at_24) (by decide) (by decide)
    obtain ⟨b39, gz39⟩ : ∃ z, z = h0.size := ⟨_, rfl⟩
    rw [← gz39] at A39 D39 st39
    have g_b39 : n0 ≤ b39 := Nat.le_trans Z0 (Nat.le_of_eq gz39.symm)
    have Z40 : n0 ≤ h39.size := Nat.le_trans Z0 E39.1
    have F41 : Fld Z h39 b39 c_0 "key" "Ljava/lang/Object;" .null := D39 (Or.inr (own_w hw 11 rfl)) (ty := (.object "java/lang/Object")) (by decide)
    have F42 : Fld Z h39 b39 c_0 "value" "Ljava/lang/Object;" .null := D39 (Or.inl (own_w hw 13 rfl)) (ty := (.object "java/lang/Object")) (by decide)
    have F43 : Fld Z h39 b39 c_0 "weightAndHot" "I" (.int (0 : Int32)) := D39 (Or.inl (own_w hw 20 rfl)) (ty := .int) (by decide)
    have go44 : Go p e below s₁ F0 T39 (mkF m 27 #[vi p1, vi p2, vi p3, vi (p1 &&& (2147483647 : Int32)), vi (p2 &&& (2147483647 : Int32)), vi (1 : Int32), .unset] [(.ref b39)]) := fun t k => go38 t (st39 t k)
    have go45 : Go p e below s₁ F0 T39 (mkF m 30 #[vi p1, vi p2, vi p3, vi (p1 &&& (2147483647 : Int32)), vi (p2 &&& (2147483647 : Int32)), vi (1 : Int32), .unset] [.null, .null, (.ref b39), (.ref b39)]) := by
      intro t kt
      refine go44 t ?_
      refine o_dup X39 hx (hb hby at_27) rfl ?_
      refine o_null X39 hx (hb hby at_28) ?_
      refine o_null X39 hx (hb hby at_29) ?_
      exact kt
    obtain ⟨_, _, ⟨T46, L46, k46, n46⟩, -, X46, ⟨Lc46, hQ46, l46, y46, z46⟩, st46⟩ := X39.specialBack hx (y := y_0) rfl hown (mvT hZ (own_w hw 4 rfl)) (mvT hZ (own_w hw 5 rfl)) (mvT hZ (own_w hw 6 rfl)) (by decide) (backOf (W := 1) (rm1 l Z a0 hw [] b39 h39 n0 Z40 A39 F41 F42 F43 g_b39) hZ (own_w hw 6 rfl) (own_w hw 3 rfl) (by decide) (by decide)) (g := (mkF m 30 #[vi p1, vi p2, vi p3, vi (p1 &&& (2147483647 : Int32)), vi (p2 &&& (2147483647 : Int32)), vi (1 : Int32), .unset] [.null, .null, (.ref b39), (.ref b39)])) rfl (by rw [hml]; rfl) (Steps.refl _) (a := b39) (argsL := [.null, .null]) (rest := [(.ref b39)]) (lenOf pd0_0 rfl) rfl (by show 2 * 0 + _ ≤ _; exact Nat.le_of_eq rfl) (hb hby at_30) (fun _ _ => ⟨rfl, e39, (by decide : 1 + 0 ≤ _), (by decide : 5 + 0 ≤ _)⟩)
    dsimp only [Pt.U, Pt.locs, Pt.cells, Pt.slots] at X46 l46 y46 z46 st46 hQ46
    subst l46 y46 z46
    obtain ⟨rfl, Nq46, Kc46, E_46, Fw_46⟩ := hQ46
    have N46 := Fr.app N0 Nq46
    have Z47 : n0 ≤ T46.heap.size := Nat.le_trans Z40 Kc46.1
    have go48 : Go p e below s₁ F0 T46 (mkF m 33 #[vi p1, vi p2, vi p3, vi (p1 &&& (2147483647 : Int32)), vi (p2 &&& (2147483647 : Int32)), vi (1 : Int32), .unset] [(.ref b39)]) := fun t k => go45 t (st46.trans k)
    have go49 : Go p e below s₁ F0 T46 (mkF m 38 #[vi p1, vi p2, vi p3, vi (p1 &&& (2147483647 : Int32)), vi (p2 &&& (2147483647 : Int32)), vi (1 : Int32), vr b39] [(.int (p1 &&& (2147483647 : Int32))), (.ref b39)]) := by
      intro t kt
      refine go48 t ?_
      refine o_astore X46 hx (hb hby at_33) rfl (L' := #[vi p1, vi p2, vi p3, vi (p1 &&& (2147483647 : Int32)), vi (p2 &&& (2147483647 : Int32)), vi (1 : Int32), vr b39]) rfl ?_
      refine o_aload X46 hx (hb hby at_35) rfl rfl ?_
      refine o_iloadN X46 hx (hb hby at_37) rfl ?_
      exact kt
    obtain ⟨cq50, kq50, q50a, q50b, q50c⟩ := isOf hZ rfl E_46
    obtain ⟨_, _, ⟨T50, L50, k50, n50⟩, -, X50, ⟨Lc50, hQ50, l50, y50, z50⟩, st50⟩ := X46.virtualBack hx (y := y_1) (z := y_1) hown (mvT hZ (own_w hw 14 rfl)) (mvT hZ (own_w hw 15 rfl)) (notFace_of_selects (args := #[]) (mvT hZ (own_w hw 17 rfl))) (mvT hZ (own_w hw 17 rfl)) (mvT hZ (own_w hw 16 rfl)) (by decide) (backOf (W := 0) (rm3 l Z a0 hw [] b39 (p1 &&& (2147483647 : Int32)) (0 : Int32) (T46.heap) n0 Z47 E_46 Fw_46 g_b39) hZ (own_w hw 18 rfl) (own_w hw 3 rfl) (by decide) (by decide)) q50a q50c (g := (mkF m 38 #[vi p1, vi p2, vi p3, vi (p1 &&& (2147483647 : Int32)), vi (p2 &&& (2147483647 : Int32)), vi (1 : Int32), vr b39] [(.int (p1 &&& (2147483647 : Int32))), (.ref b39)])) rfl (by rw [hml]; rfl) (Steps.refl _) (argsL := [(.int (p1 &&& (2147483647 : Int32)))]) (rest := []) (lenOf pd0_1 rfl) rfl (by show 2 * 0 + _ ≤ _; exact Nat.le_of_eq rfl) (hb hby at_38) (fun _ _ => ⟨rfl, rfl, (by decide : 1 + 0 ≤ _), (by decide : 5 + 0 ≤ _)⟩)
    dsimp only [Pt.U, Pt.locs, Pt.cells, Pt.slots] at X50 l50 y50 z50 st50 hQ50
    subst l50 y50 z50
    obtain ⟨rfl, Nq50, Kc50, Fw_50⟩ := hQ50
    have N50 := Fr.app N46 Nq50
    have Z51 : n0 ≤ T50.heap.size := Nat.le_trans Z47 Kc50.1
    have go52 : Go p e below s₁ F0 T50 (mkF m 41 #[vi p1, vi p2, vi p3, vi (p1 &&& (2147483647 : Int32)), vi (p2 &&& (2147483647 : Int32)), vi (1 : Int32), vr b39] []) := fun t k => go49 t (st50.trans k)
    have F53 : Exa Z T50.heap b39 c_0 := (E_46.keep Kc50)
    have go54 : Go p e below s₁ F0 T50 (mkF m 45 #[vi p1, vi p2, vi p3, vi (p1 &&& (2147483647 : Int32)), vi (p2 &&& (2147483647 : Int32)), vi (1 : Int32), vr b39] [(.int (1 : Int32)), (.ref b39)]) := by
      intro t kt
      refine go52 t ?_
      refine o_aload X50 hx (hb hby at_41) rfl rfl ?_
      refine o_iload X50 hx (hb hby at_43) rfl ?_
      exact kt
    obtain ⟨cq55, kq55, q55a, q55b, q55c⟩ := isOf hZ rfl F53
    obtain ⟨_, _, ⟨T55, L55, k55, n55⟩, -, X55, ⟨Lc55, hQ55, l55, y55, z55⟩, st55⟩ := X50.virtualBack hx (y := y_2) (z := y_2) hown (mvT hZ (own_w hw 22 rfl)) (mvT hZ (own_w hw 23 rfl)) (notFace_of_selects (args := #[]) (mvT hZ (own_w hw 25 rfl))) (mvT hZ (own_w hw 25 rfl)) (mvT hZ (own_w hw 24 rfl)) (by decide) (backOf (W := 0) (rm4_1 l Z a0 hw [] b39 (((0 : Int32) &&& (-2147483648 : Int32)) ||| (p1 &&& (2147483647 : Int32))) (T50.heap) n0 Z51 F53 Fw_50 g_b39) hZ (own_w hw 26 rfl) (own_w hw 3 rfl) (by decide) (by decide)) q55a q55c (g := (mkF m 45 #[vi p1, vi p2, vi p3, vi (p1 &&& (2147483647 : Int32)), vi (p2 &&& (2147483647 : Int32)), vi (1 : Int32), vr b39] [(.int (1 : Int32)), (.ref b39)])) rfl (by rw [hml]; rfl) (Steps.refl _) (argsL := [(.int (1 : Int32))]) (rest := []) (lenOf pd0_2 rfl) rfl (by show 2 * 0 + _ ≤ _; exact Nat.le_of_eq rfl) (hb hby at_45) (fun _ _ => ⟨rfl, rfl, (by decide : 1 + 0 ≤ _), (by decide : 5 + 0 ≤ _)⟩)
    dsimp only [Pt.U, Pt.locs, Pt.cells, Pt.slots] at X55 l55 y55 z55 st55 hQ55
    subst l55 y55 z55
    obtain ⟨rfl, Nq55, Kc55, Fw_55⟩ := hQ55
    have N55 := Fr.app N50 Nq55
    have Z56 : n0 ≤ T55.heap.size := Nat.le_trans Z51 Kc55.1
    have go57 : Go p e below s₁ F0 T55 (mkF m 48 #[vi p1, vi p2, vi p3, vi (p1 &&& (2147483647 : Int32)), vi (p2 &&& (2147483647 : Int32)), vi (1 : Int32), vr b39] []) := fun t k => go54 t (st55.trans k)
    have F58 : Exa Z T55.heap b39 c_0 := (F53.keep Kc55)
    have go59 : Go p e below s₁ F0 T55 (mkF m 52 #[vi p1, vi p2, vi p3, vi (p1 &&& (2147483647 : Int32)), vi (p2 &&& (2147483647 : Int32)), vi (1 : Int32), vr b39] [(.int (p2 &&& (2147483647 : Int32))), (.ref b39)]) := by
      intro t kt
      refine go57 t ?_
      refine o_aload X55 hx (hb hby at_48) rfl rfl ?_
      refine o_iload X55 hx (hb hby at_50) rfl ?_
      exact kt
    obtain ⟨cq60, kq60, q60a, q60b, q60c⟩ := isOf hZ rfl F58
    obtain ⟨_, _, ⟨T60, L60, k60, n60⟩, -, X60, ⟨Lc60, hQ60, l60, y60, z60⟩, st60⟩ := X55.virtualBack hx (y := y_1) (z := y_1) hown (mvT hZ (own_w hw 14 rfl)) (mvT hZ (own_w hw 15 rfl)) (notFace_of_selects (args := #[]) (mvT hZ (own_w hw 17 rfl))) (mvT hZ (own_w hw 17 rfl)) (mvT hZ (own_w hw 16 rfl)) (by decide) (backOf (W := 0) (rm3 l Z a0 hw [] b39 (p2 &&& (2147483647 : Int32)) ((((0 : Int32) &&& (-2147483648 : Int32)) ||| (p1 &&& (2147483647 : Int32))) ||| (-2147483648 : Int32)) (T55.heap) n0 Z56 F58 Fw_55 g_b39) hZ (own_w hw 18 rfl) (own_w hw 3 rfl) (by decide) (by decide)) q60a q60c (g := (mkF m 52 #[vi p1, vi p2, vi p3, vi (p1 &&& (2147483647 : Int32)), vi (p2 &&& (2147483647 : Int32)), vi (1 : Int32), vr b39] [(.int (p2 &&& (2147483647 : Int32))), (.ref b39)])) rfl (by rw [hml]; rfl) (Steps.refl _) (argsL := [(.int (p2 &&& (2147483647 : Int32)))]) (rest := []) (lenOf pd0_1 rfl) rfl (by show 2 * 0 + _ ≤ _; exact Nat.le_of_eq rfl) (hb hby at_52) (fun _ _ => ⟨rfl, rfl, (by decide : 1 + 0 ≤ _), (by decide : 5 + 0 ≤ _)⟩)
    dsimp only [Pt.U, Pt.locs, Pt.cells, Pt.slots] at X60 l60 y60 z60 st60 hQ60
    subst l60 y60 z60
    obtain ⟨rfl, Nq60, Kc60, Fw_60⟩ := hQ60
    have N60 := Fr.app N55 Nq60
    have Z61 : n0 ≤ T60.heap.size := Nat.le_trans Z56 Kc60.1
    have go62 : Go p e below s₁ F0 T60 (mkF m 55 #[vi p1, vi p2, vi p3, vi (p1 &&& (2147483647 : Int32)), vi (p2 &&& (2147483647 : Int32)), vi (1 : Int32), vr b39] []) := fun t k => go59 t (st60.trans k)
    have go63 : Go p e below s₁ F0 T60 (mkF m 57 #[vi p1, vi p2, vi p3, vi (p1 &&& (2147483647 : Int32)), vi (p2 &&& (2147483647 : Int32)), vi (1 : Int32), vr b39] [(.ref b39)]) := by
      intro t kt
      refine go62 t ?_
      refine o_aload X60 hx (hb hby at_55) rfl rfl ?_
      exact kt
    have F65 : Exa Z T60.heap b39 c_0 := (F58.keep Kc60)
    obtain ⟨cq64, kq64, q64a, q64b, q64c⟩ := isOf hZ rfl F65
    obtain ⟨_, _, ⟨T64, L64, k64, n64⟩, -, X64, ⟨Lc64, hQ64, l64, y64, z64⟩, st64⟩ := X60.virtualBack hx (y := y_3) (z := y_3) hown (mvT hZ (own_w hw 28 rfl)) (mvT hZ (own_w hw 29 rfl)) (notFace_of_selects (args := #[]) (mvT hZ (own_w hw 31 rfl))) (mvT hZ (own_w hw 31 rfl)) (mvT hZ (own_w hw 30 rfl)) (by decide) (backOf (W := 0) (rm5 l Z a0 hw [] b39 ((((((0 : Int32) &&& (-2147483648 : Int32)) ||| (p1 &&& (2147483647 : Int32))) ||| (-2147483648 : Int32)) &&& (-2147483648 : Int32)) ||| (p2 &&& (2147483647 : Int32))) (T60.heap) n0 Z61 Fw_60) hZ (own_w hw 32 rfl) (own_w hw 3 rfl) (by decide) (by decide)) q64a q64c (g := (mkF m 57 #[vi p1, vi p2, vi p3, vi (p1 &&& (2147483647 : Int32)), vi (p2 &&& (2147483647 : Int32)), vi (1 : Int32), vr b39] [(.ref b39)])) rfl (by rw [hml]; rfl) (Steps.refl _) (argsL := []) (rest := []) (lenOf pd0_3 rfl) rfl (by show 2 * 0 + _ ≤ _; exact Nat.le_of_eq rfl) (hb hby at_57) (fun _ _ => ⟨rfl, rfl, (by decide : 1 + 0 ≤ _), (by decide : 5 + 0 ≤ _)⟩)
    dsimp only [Pt.U, Pt.locs, Pt.cells, Pt.slots] at X64 l64 y64 z64 st64 hQ64
    subst l64 y64 z64
    obtain ⟨rfl, Nq64, eh64⟩ := hQ64
    have N64 := Fr.app N60 Nq64
    have go66 : Go p e below s₁ F0 T64 (mkF m 60 #[vi p1, vi p2, vi p3, vi (p1 &&& (2147483647 : Int32)), vi (p2 &&& (2147483647 : Int32)), vi (1 : Int32), vr b39] [(.int (((((((0 : Int32) &&& (-2147483648 : Int32)) ||| (p1 &&& (2147483647 : Int32))) ||| (-2147483648 : Int32)) &&& (-2147483648 : Int32)) ||| (p2 &&& (2147483647 : Int32))) &&& (2147483647 : Int32)))]) := fun t k => go63 t (st64.trans k)
    have go68 : Go p e below s₁ F0 T64 (mkF m 62 #[vi p1, vi p2, vi p3, vi (p1 &&& (2147483647 : Int32)), vi (p2 &&& (2147483647 : Int32)), vi (1 : Int32), vr b39] [(.int (p2 &&& (2147483647 : Int32))), (.int (((((((0 : Int32) &&& (-2147483648 : Int32)) ||| (p1 &&& (2147483647 : Int32))) ||| (-2147483648 : Int32)) &&& (-2147483648 : Int32)) ||| (p2 &&& (2147483647 : Int32))) &&& (2147483647 : Int32)))]) := by
      intro t kt
      refine go66 t ?_
      refine o_iload X64 hx (hb hby at_60) rfl ?_
      exact kt
    have hd67 : (((((((0 : Int32) &&& (-2147483648 : Int32)) ||| (p1 &&& (2147483647 : Int32))) ||| (-2147483648 : Int32)) &&& (-2147483648 : Int32)) ||| (p2 &&& (2147483647 : Int32))) &&& (2147483647 : Int32)) = (p2 &&& (2147483647 : Int32)) := (own_bits _ _ fun i hi => by simp only [Int32.toBitVec_and, Int32.toBitVec_or, BitVec.getLsbD_and, BitVec.getLsbD_or, own_max i hi, own_min i hi, own_zero i]; by_cases q : i = 31 <;> simp [q])
    have go69 : Go p e below s₁ F0 T64 (mkF m 67 #[vi p1, vi p2, vi p3, vi (p1 &&& (2147483647 : Int32)), vi (p2 &&& (2147483647 : Int32)), vi (1 : Int32), vr b39] [(.ref b39)]) := by
      intro t kt
      refine go68 t ?_
      refine o_icmpNo X64 hx (hb hby at_62) (teq hd67).2 ?_
      refine o_aload X64 hx (hb hby at_65) rfl rfl ?_
      exact kt
    obtain ⟨cq70, kq70, q70a, q70b, q70c⟩ := isOf hZ eh64 F65
    obtain ⟨_, _, ⟨T70, L70, k70, n70⟩, -, X70, ⟨Lc70, hQ70, l70, y70, z70⟩, st70⟩ := X64.virtualBack hx (y := y_4) (z := y_4) hown (mvT hZ (own_w hw 33 rfl)) (mvT hZ (own_w hw 34 rfl)) (notFace_of_selects (args := #[]) (mvT hZ (own_w hw 36 rfl))) (mvT hZ (own_w hw 36 rfl)) (mvT hZ (own_w hw 35 rfl)) (by decide) (backOf (W := 0) (rm6_1 l Z a0 hw [] b39 ((((((0 : Int32) &&& (-2147483648 : Int32)) ||| (p1 &&& (2147483647 : Int32))) ||| (-2147483648 : Int32)) &&& (-2147483648 : Int32)) ||| (p2 &&& (2147483647 : Int32))) (T60.heap) n0 Z61 Fw_60 (by rw [own_sign]; simp only [Int32.toBitVec_and, Int32.toBitVec_or, BitVec.getLsbD_and, BitVec.getLsbD_or, own_max 31 (by decide), own_min 31 (by decide), own_zero 31]; simp)) hZ (own_w hw 37 rfl) (own_w hw 3 rfl) (by decide) (by decide)) q70a q70c (g := (mkF m 67 #[vi p1, vi p2, vi p3, vi (p1 &&& (2147483647 : Int32)), vi (p2 &&& (2147483647 : Int32)), vi (1 : Int32), vr b39] [(.ref b39)])) rfl (by rw [hml]; rfl) (Steps.refl _) (argsL := []) (rest := []) (lenOf pd0_4 rfl) rfl (by show 2 * 0 + _ ≤ _; exact Nat.le_of_eq rfl) (hb hby at_67) (fun _ _ => ⟨rfl, eh64, (by decide : 1 + 0 ≤ _), (by decide : 5 + 0 ≤ _)⟩)
    dsimp only [Pt.U, Pt.locs, Pt.cells, Pt.slots] at X70 l70 y70 z70 st70 hQ70
    subst l70 y70 z70
    obtain ⟨rfl, Nq70, eh70⟩ := hQ70
    have N70 := Fr.app N64 Nq70
    have go71 : Go p e below s₁ F0 T70 (mkF m 70 #[vi p1, vi p2, vi p3, vi (p1 &&& (2147483647 : Int32)), vi (p2 &&& (2147483647 : Int32)), vi (1 : Int32), vr b39] [(.int (1 : Int32))]) := fun t k => go69 t (st70.trans k)
    have go72 : Go p e below s₁ F0 T70 (mkF m 80 #[vi p1, vi p2, vi p3, vi (p1 &&& (2147483647 : Int32)), vi (p2 &&& (2147483647 : Int32)), vi (1 : Int32), vr b39] [(.int (1 : Int32))]) := by
      intro t kt
      refine go71 t ?_
      refine o_iload X70 hx (hb hby at_70) rfl ?_
      refine o_icmpNo X70 hx (hb hby at_72) (teq (by decide : (1 : Int32) = (1 : Int32))).2 ?_
      refine o_iconst X70 hx (hb hby at_75) (v := 1) rfl ?_
      refine o_goto X70 hx (hb hby at_76) (pc' := 80) rfl (by decide) ?_
      exact kt
    obtain ⟨fs, hr, hrun, hended, hW, hsame⟩ := X70.leave (v := some (.int (1 : Int32))) (fun h => by rw [Bd.returns] at h; cases h)
    refine ⟨_, _, pre0 _ (go72 _ ?_), hrun, hended, _, _, rfl, ?_, ⟨_, rfl⟩, hW, hsame.mono (by decide) (by decide)⟩
    · skip
      exact retN X70 hx (t := .boolean) Bd.returns (by simp) (hb hby at_80) hr
    · show Q0 Z p1 p2 p3 h0 n0 _ T70.heap _
      rw [eh70]
      exact ⟨rfl, N70⟩

set_option maxRecDepth 65536 in
set_option maxHeartbeats 40000000 in
theorem comes_1 {Post : Tables → Env → Array Value → State → Outcome → State → Prop} (hpost : ∀ tb e args s v u, (limb_1_1.after args s (.returned v) u = true ∧ limb_1_2.after args s (.returned v) u = true ∧ True) → FrameEnd s (.returned v) u (Jvm.fieldLocs frame_1_writes args s ++ Jvm.arrayLocs frame_1_arrays args s ++ Jvm.staticLocs frame_1_statics s) 16 128 → Post tb e args s (.returned v) u) :
    ArmFor flags0 classFile x code maxLocals ret World_1 tables_1 room_1 Calls_1 rest_1 Pre_1 Post := by
  intro l hfl _ _ p e ha hc hk s m args below hf hA hF happ hP
  obtain ⟨hcalls, hrest, hpre⟩ := hP
  obtain ⟨-, -, -, hnamed, -, -, -, hat⟩ := (Spec.applies_iff hf).mp happ
  obtain ⟨hg, hn⟩ := and_e (Cond.before_iff.mp (show (Jvm.Cond.and given_1 narrow_1).before args s = true from hpre))
  obtain ⟨g1, g2⟩ := and_e hg
  obtain ⟨g3, g4⟩ := and_e g2
  obtain ⟨g5, g6⟩ := and_e g4
  obtain ⟨w0, w1, w2, rfl⟩ : ∃ w0 w1 w2 : Value, args = #[w0, w1, w2] := by
    have hs : args.size = 3 := by simpa [Cond.value, given_1] using g1
    obtain ⟨L⟩ := args
    match L, hs with
    | [w0, w1, w2], _ => exact ⟨w0, w1, w2, rfl⟩
  have hw := fun d (hd : d ∈ tables_1) => atoms_spec (ws := Jvm.Cond.code x code maxLocals ret :: tables_1) hat d (List.mem_cons_of_mem _ hd)
  have hfit : Fit s := fun {y c} hc i hi => by
    obtain ⟨ha, rfl⟩ := Array.getElem?_eq_some_iff.mp hc
    have q := List.all_eq_true.mp ((Array.all_eq_true_iff_forall_mem.mp hF) _ (Array.getElem_mem ha)) i (List.mem_range.mpr hi)
    simpa [Array.getElem?_eq_getElem hi] using q
  obtain ⟨i0, ei0⟩ := is_v g3
  obtain rfl : w0 = (.int i0) := Option.some.inj ei0
  obtain ⟨i1, ei1⟩ := is_v g5
  obtain rfl : w1 = (.int i1) := Option.some.inj ei1
  obtain ⟨i2, ei2⟩ := is_v g6
  obtain rfl : w2 = (.int i2) := Option.some.inj ei2
  obtain ⟨n, o, h1, h2, h3, _, L, rfl, ⟨rfl, N⟩, hq⟩ := rm0 l s _ hw tables_1 i0 i1 i2  s.heap s.heap.size (Nat.le_refl _)  p e ha hc hk s m _ below hf ((Spec.applies_iff_loose hf).mp happ).1 ⟨rfl, State.Warmed39.refl s, rfl⟩ trivial
  refine ⟨n, _, h1, h2, h3, hpost _ _ _ _ _ _ ⟨Cond.after_iff.mpr rfl, Cond.after_iff.mpr (eq_i res_at (Term.int_eval (1)) rfl), trivial⟩ ⟨hq.1, hq.2.1, (hq.2.2.sift fun y hy => Or.inr (N y hy)).mono (by decide) (by decide)⟩⟩
theorem main_1_1 : Claimed_1_1 := comes_1 fun _ _ _ _ _ _ h hF => ⟨h.1, hF⟩
theorem main_1_2 : Claimed_1_2 := comes_1 fun _ _ _ _ _ _ h hF => ⟨h.2.1, hF⟩
end Jvm.Pilot.@@N@@
namespace Jvm.Pilot.@@N@@
open Jvm Jvm.ClassFile Sem Op Lib Jvm.Free Jvm.Stand Jvm.Pilot.@@N@@.Jvm.D
/-! MADE BY PROGRAM (witnessworld.py) out of the Statement's table words and the real class files: 9 classes; the members and pool entries that the words name. The judged class is class 1, her method 1. -/
namespace start1
open Jvm.ClassFile
def u (s : String) : CpInfo := .utf8 (stringToUtf16 s)
/-- a pool by its gaps: so many unusable entries, then the entry; so many at the end -/
def gap : Nat → List CpInfo → List CpInfo
  | 0, r => r
  | n + 1, r => .unusable :: gap n r
def poolList (es : List (Nat × CpInfo)) (last : Nat) : List CpInfo := es.foldr (fun e r => gap e.1 (e.2 :: r)) (gap last [])
def pool (es : List (Nat × CpInfo)) (last : Nat) : Array CpInfo := ⟨poolList es last⟩
def fileOf (pool : Array CpInfo) (this : Nat) (attrs : Array Attribute := #[]) (ms : Array MethodInfo := #[]) (fl : Nat := 33) (sup : Nat := 0) (ifs : Array Nat := #[]) (fds : Array FieldInfo := #[]) : ClassFile where
  minorVersion := 0
  majorVersion := 65
  constantPool := pool
  accessFlags := fl
  thisClass := this
  superClass := sup
  interfaces := ifs
  fields := fds
  methods := ms
  attributes := attrs
def plain (name : String) (sup : Option ClassId) : Class where
  name := name
  kind := .ordinary
  loader := none
  accessFlags := 33
  super := sup
  interfaces := #[]
  cf := none
  fields := #[]
  methods := #[]
  instanceTypes := #[]
  staticTypes := #[]
  resolved := #[]
  callSites := []
  init := .initialized
  statics := none
  mirror := none

def pool0 : Array CpInfo := pool [(5, u "<init>"), (0, u "()V"), (1, .class_ 10), (1, u "java/lang/Object")] 113

def k0c0 : Code := { maxStack := 0, maxLocals := 1, code := object_method_1_code, exceptionTable := #[], attributes := #[] }
def k0m0 : Method := { name := "<init>", desc := "()V", sig := { parameters := [], returnType := none }, accessFlags := 1, code := some k0c0 }
/-- java/lang/Object -/
def k0 : Class := { plain "java/lang/Object" none with
  accessFlags := 33
  interfaces := #[]
  cf := some (fileOf pool0 8 #[] #[{ accessFlags := 1, nameIndex := 5, descriptorIndex := 6, attributes := #[] }] 33 0 #[] #[])
  fields := #[]
  methods := #[k0m0]
  instanceTypes := #[]
  staticTypes := #[]
  resolved := Array.replicate 124 none
  statics := none }

def pool1 : Array CpInfo := pool [(2, .class_ 4), (1, u "java/lang/Object"), (0, u "<init>"), (0, u "()V"), (2, .integer 2147483647), (0, .class_ 11), (0, u "com/example/larder/larder/Node"), (0, .methodref 10 13), (0, .nameAndType 5 14), (0, u "(Ljava/lang/Object;Ljava/lang/Object;)V"), (0, .methodref 10 16), (0, .nameAndType 17 18), (0, u "setWeight"), (0, u "(I)V"), (0, .methodref 10 20), (0, .nameAndType 21 22), (0, u "setHot"), (0, u "(Z)V"), (0, .methodref 10 24), (0, .nameAndType 25 26), (0, u "weight"), (0, u "()I"), (0, .methodref 10 28), (0, .nameAndType 29 30), (0, u "isHot"), (0, u "()Z"), (0, .class_ 32), (0, u "com/example/larder/larder/NodeSetWeightPinLaw"), (2, u "law"), (0, u "(III)Z")] 3

def k1m0 : Method := { name := "<init>", desc := "()V", sig := { parameters := [], returnType := none }, accessFlags := 1, code := none }
def k1c1 : Code := { maxStack := 4, maxLocals := 7, code := code, exceptionTable := #[], attributes := #[] }
def k1m1 : Method := { name := "law", desc := "(III)Z", sig := { parameters := [.int, .int, .int], returnType := some .boolean }, accessFlags := 9, code := some k1c1 }
/-- com/example/larder/larder/NodeSetWeightPinLaw -/
def k1 : Class := { plain "com/example/larder/larder/NodeSetWeightPinLaw" (some 0) with
  accessFlags := 49
  interfaces := #[]
  cf := some (fileOf pool1 31 #[] #[{ accessFlags := 1, nameIndex := 5, descriptorIndex := 6, attributes := #[] }, { accessFlags := 9, nameIndex := 35, descriptorIndex := 36, attributes := #[] }] 49 2 #[] #[])
  fields := #[]
  methods := #[k1m0, k1m1]
  instanceTypes := #[]
  staticTypes := #[]
  resolved := Array.replicate 40 none
  statics := none }

def pool2 : Array CpInfo := pool [(1, .methodref 2 3), (0, .class_ 4), (0, .nameAndType 5 6), (0, u "java/lang/Object"), (0, u "<init>"), (0, u "()V"), (0, .fieldref 8 9), (0, .class_ 10), (0, .nameAndType 11 12), (0, u "com/example/larder/larder/Node"), (0, u "key"), (0, u "Ljava/lang/Object;"), (0, .fieldref 8 14), (0, .nameAndType 15 12), (0, u "value"), (0, .fieldref 8 17), (0, .nameAndType 18 19), (0, u "weightAndHot"), (0, u "I"), (2, .integer 2147483647), (0, .integer 2147483648), (33, u "WRITE_TIME"), (0, u "Ljava/lang/String;"), (1, u "ACCESS_TIME"), (0, u "WRITE_ORDER_PLACE"), (0, u "EXPIRY_TIME"), (0, u "HEAP_PLACE"), (3, u "previous"), (0, u "Lcom/example/larder/larder/Node;"), (1, u "next"), (0, u "(Ljava/lang/Object;Ljava/lang/Object;)V"), (3, u "weight"), (0, u "()I"), (0, u "setWeight"), (0, u "(I)V"), (0, u "isHot"), (0, u "()Z"), (1, u "setHot"), (0, u "(Z)V"), (24, .class_ 109), (0, u "com/example/larder/larder/Node$AccessTimed"), (0, .class_ 111), (0, u "com/example/larder/larder/Node$Expiring"), (0, .class_ 113), (0, u "com/example/larder/larder/Node$WriteTimed")] 18

def k2c0 : Code := { maxStack := 2, maxLocals := 3, code := prog_18_method_1_code, exceptionTable := #[], attributes := #[] }
def k2m0 : Method := { name := "<init>", desc := "(Ljava/lang/Object;Ljava/lang/Object;)V", sig := { parameters := [(.object "java/lang/Object"), (.object "java/lang/Object")], returnType := none }, accessFlags := 0, code := some k2c0 }
def k2c1 : Code := { maxStack := 2, maxLocals := 1, code := prog_18_method_2_code, exceptionTable := #[], attributes := #[] }
def k2m1 : Method := { name := "weight", desc := "()I", sig := { parameters := [], returnType := some .int }, accessFlags := 0, code := some k2c1 }
def k2c2 : Code := { maxStack := 3, maxLocals := 2, code := prog_18_method_3_code, exceptionTable := #[], attributes := #[] }
def k2m2 : Method := { name := "setWeight", desc := "(I)V", sig := { parameters := [.int], returnType := none }, accessFlags := 0, code := some k2c2 }
def k2c3 : Code := { maxStack := 1, maxLocals := 1, code := prog_18_method_4_code, exceptionTable := #[], attributes := #[] }
def k2m3 : Method := { name := "isHot", desc := "()Z", sig := { parameters := [], returnType := some .boolean }, accessFlags := 0, code := some k2c3 }
def k2c4 : Code := { maxStack := 3, maxLocals := 2, code := prog_18_method_5_code, exceptionTable := #[], attributes := #[] }
def k2m4 : Method := { name := "setHot", desc := "(Z)V", sig := { parameters := [.boolean], returnType := none }, accessFlags := 0, code := some k2c4 }
/-- com/example/larder/larder/Node -/
def k2 : Class := { plain "com/example/larder/larder/Node" (some 0) with
  accessFlags := 32
  interfaces := #[]
  cf := some (fileOf pool2 8 #[.nestMembers #[108, 110, 112]] #[{ accessFlags := 0, nameIndex := 5, descriptorIndex := 71, attributes := #[] }, { accessFlags := 0, nameIndex := 75, descriptorIndex := 76, attributes := #[] }, { accessFlags := 0, nameIndex := 77, descriptorIndex := 78, attributes := #[] }, { accessFlags := 0, nameIndex := 79, descriptorIndex := 80, attributes := #[] }, { accessFlags := 0, nameIndex := 82, descriptorIndex := 83, attributes := #[] }] 32 2 #[] #[{ accessFlags := 26, nameIndex := 57, descriptorIndex := 58, attributes := #[] }, { accessFlags := 26, nameIndex := 60, descriptorIndex := 58, attributes := #[] }, { accessFlags := 26, nameIndex := 61, descriptorIndex := 58, attributes := #[] }, { accessFlags := 26, nameIndex := 62, descriptorIndex := 58, attributes := #[] }, { accessFlags := 26, nameIndex := 63, descriptorIndex := 58, attributes := #[] }, { accessFlags := 16, nameIndex := 11, descriptorIndex := 12, attributes := #[] }, { accessFlags := 64, nameIndex := 15, descriptorIndex := 12, attributes := #[] }, { accessFlags := 0, nameIndex := 67, descriptorIndex := 68, attributes := #[] }, { accessFlags := 0, nameIndex := 70, descriptorIndex := 68, attributes := #[] }, { accessFlags := 2, nameIndex := 18, descriptorIndex := 19, attributes := #[] }])
  fields := #[{ name := "WRITE_TIME", type := (.object "java/lang/String"), accessFlags := 26, slot := 0, constantValue := 0 }, { name := "ACCESS_TIME", type := (.object "java/lang/String"), accessFlags := 26, slot := 1, constantValue := 0 }, { name := "WRITE_ORDER_PLACE", type := (.object "java/lang/String"), accessFlags := 26, slot := 2, constantValue := 0 }, { name := "EXPIRY_TIME", type := (.object "java/lang/String"), accessFlags := 26, slot := 3, constantValue := 0 }, { name := "HEAP_PLACE", type := (.object "java/lang/String"), accessFlags := 26, slot := 4, constantValue := 0 }, { name := "key", type := (.object "java/lang/Object"), accessFlags := 16, slot := 0, constantValue := 0 }, { name := "value", type := (.object "java/lang/Object"), accessFlags := 64, slot := 1, constantValue := 0 }, { name := "previous", type := (.object "com/example/larder/larder/Node"), accessFlags := 0, slot := 2, constantValue := 0 }, { name := "next", type := (.object "com/example/larder/larder/Node"), accessFlags := 0, slot := 3, constantValue := 0 }, { name := "weightAndHot", type := .int, accessFlags := 2, slot := 4, constantValue := 0 }]
  methods := #[k2m0, k2m1, k2m2, k2m3, k2m4]
  instanceTypes := #[(.object "java/lang/Object"), (.object "java/lang/Object"), (.object "com/example/larder/larder/Node"), (.object "com/example/larder/larder/Node"), .int]
  staticTypes := #[(.object "java/lang/String"), (.object "java/lang/String"), (.object "java/lang/String"), (.object "java/lang/String"), (.object "java/lang/String")]
  resolved := Array.replicate 132 none
  statics := none }

def pool3 : Array CpInfo := pool [(1, u "java/lang/Cloneable"), (0, .class_ 1), (0, u "java/lang/Object"), (0, .class_ 3)] 3

/-- java/lang/Cloneable -/
def k3 : Class := { plain "java/lang/Cloneable" (some 0) with
  accessFlags := 1537
  interfaces := #[]
  cf := some (fileOf pool3 2 #[] #[] 1537 4 #[] #[])
  fields := #[]
  methods := #[]
  instanceTypes := #[]
  staticTypes := #[]
  resolved := Array.replicate 8 none
  statics := none }

def pool4 : Array CpInfo := pool [(1, u "java/io/Serializable"), (0, .class_ 1), (0, u "java/lang/Object"), (0, .class_ 3)] 3

/-- java/io/Serializable -/
def k4 : Class := { plain "java/io/Serializable" (some 0) with
  accessFlags := 1537
  interfaces := #[]
  cf := some (fileOf pool4 2 #[] #[] 1537 4 #[] #[])
  fields := #[]
  methods := #[]
  instanceTypes := #[]
  staticTypes := #[]
  resolved := Array.replicate 8 none
  statics := none }

/-- the primitive byte -/
def k5 : Class := { plain "byte" none with kind := .primitive 'B', accessFlags := 0x411 }
/-- [B -/
def k6 : Class := { plain "[B" (some 0) with kind := .array 5 .byte, interfaces := #[3, 4], accessFlags := 1041 }

/-- the primitive int -/
def k7 : Class := { plain "int" none with kind := .primitive 'I', accessFlags := 0x411 }
/-- [I -/
def k8 : Class := { plain "[I" (some 0) with kind := .array 7 .int, interfaces := #[3, 4], accessFlags := 1041 }

def heap : Heap := #[]
def classes : Array Class := #[k0, k1, k2, k3, k4, k5, k6, k7, k8]
def interned : List (Array UInt16 × Addr) := []
def slotsUsed : Nat := 0
def theMethod : MethodId := ⟨1, 1⟩
def args0 : Array Value := #[.int 5, .int 5, .int 5]
def aboutOver (below : List Frame) : State where
  vm := { classes := classes, interned := interned.toArray }
  heap := heap
  slotsUsed := slotsUsed
  threads := #[{ frames := .invoking theMethod args0 :: below }]
def below0 : List Frame := [.native { method := ⟨0, 0⟩, args := #[] }]
def about1 : State := aboutOver below0
def p0 : Program := .bare "" "" ""
def e0 : Env := launch0.env 0 0 0
theorem w_frames : about1.frames = Frame.invoking theMethod args0 :: below0 := rfl
set_option maxRecDepth 65536 in
theorem w_args : argsFit about1.vm theMethod args0 = true := by decide +kernel
set_option maxRecDepth 65536 in
theorem w_heap : heapFits about1 = true := by decide +kernel
set_option maxRecDepth 65536 in
theorem w_runnable : about1.curStatus? = some .runnable := by decide +kernel
set_option maxRecDepth 65536 in
theorem w_alone : about1.alone = true := by decide +kernel
set_option maxRecDepth 65536 in
theorem w_named : about1.methodNamed? x = some theMethod := by decide +kernel
set_option maxRecDepth 65536 in
theorem w_hears : about1.hears theMethod below0 = true := by decide +kernel
set_option maxRecDepth 65536 in
theorem w_ripe : about1.ripe theMethod args0 below0 = true := by decide +kernel
theorem w_running : about1.status = .running := rfl
set_option maxRecDepth 65536 in
theorem w_room : about1.hasRoom e0.platform room_1 = true :=
  launch0.hasRoom_least _ room_1 (by decide +kernel) (by decide +kernel) (by decide +kernel) (by decide +kernel) (by decide +kernel) (by decide +kernel)
theorem allAtoms_all (ts : List Jvm.Cond) (a : Array Jvm.Value) (st : Jvm.State) : (allAtoms ts).before a st = ts.all (fun c => c.before a st) := by
  induction ts with
  | nil => rfl
  | cons c t ih =>
    show (Jvm.Cond.and c (allAtoms t)).before a st = _
    rw [Jvm.Cond.before_and, ih, List.all_cons]
def words1 : List Jvm.Cond := Jvm.Cond.code x code maxLocals ret :: tables_1
/-- a 'code' word, met by the world's own term for the bytes: nothing is compared byte by byte -/
theorem code_word {y : MethodName} {bytes : ByteArray} {mx : Nat} {rt : Option FieldType} {a : Array Value} {s : State} {m : MethodId} {meth : Method} {c : Code} (h1 : s.methodNamed? y = some m) (h2 : s.vm.method? m = some meth) (h3 : meth.code = some c) (h4 : c.code = bytes)
    (h5 : (c.maxLocals == mx && c.exceptionTable.isEmpty && decide (c.maxStack ≤ mostOperands) && decide (meth.sig.returnType = rt) && !meth.locks && decide (parseMethodDescriptor y.desc = some meth.sig)) = true) : (Jvm.Cond.code y bytes mx rt).before a s = true := by
  simp only [Bool.and_eq_true, beq_iff_eq, Bool.not_eq_true', decide_eq_true_eq] at h5
  obtain ⟨⟨⟨⟨⟨g1, g2⟩, g3⟩, g4⟩, g5⟩, g6⟩ := h5
  simp [Cond.before, Cond.holds, Cond.value, h1, h2, h3, h4, g1, g2, g3, g4, g5, g6]
def isCode : Jvm.Cond → Bool
  | .code _ _ _ _ => true
  | _ => false
theorem all_split {L : List Jvm.Cond} {P : Jvm.Cond → Bool} (h1 : L.all (fun c => isCode c || P c) = true) (h2 : ∀ c ∈ L.filter isCode, P c = true) : L.all P = true := by
  refine List.all_eq_true.mpr fun c hc => ?_
  have h := List.all_eq_true.mp h1 c hc
  rcases Bool.eq_false_or_eq_true (isCode c) with hi | hi
  · exact h2 c (List.mem_filter.mpr ⟨hc, hi⟩)
  · simpa [hi] using h
set_option maxRecDepth 65536 in
theorem w_c0 : (Jvm.Cond.code x code maxLocals ret).before args0 about1 = true := code_word (m := ⟨1, 1⟩) (meth := k1m1) (c := k1c1) (by decide +kernel) rfl rfl rfl (by decide +kernel)
set_option maxRecDepth 65536 in
theorem w_c1 : (Jvm.Cond.code ({ cls := "com/example/larder/larder/Node", name := "<init>", desc := "(Ljava/lang/Object;Ljava/lang/Object;)V" } : Jvm.MethodName) prog_18_method_1_code (3 : Nat) (Option.none : Option Jvm.ClassFile.FieldType)).before args0 about1 = true := code_word (m := ⟨2, 0⟩) (meth := k2m0) (c := k2c0) (by decide +kernel) rfl rfl rfl (by decide +kernel)
set_option maxRecDepth 65536 in
theorem w_c2 : (Jvm.Cond.code ({ cls := "java/lang/Object", name := "<init>", desc := "()V" } : Jvm.MethodName) object_method_1_code (1 : Nat) (Option.none : Option Jvm.ClassFile.FieldType)).before args0 about1 = true := code_word (m := ⟨0, 0⟩) (meth := k0m0) (c := k0c0) (by decide +kernel) rfl rfl rfl (by decide +kernel)
set_option maxRecDepth 65536 in
theorem w_c3 : (Jvm.Cond.code ({ cls := "com/example/larder/larder/Node", name := "setWeight", desc := "(I)V" } : Jvm.MethodName) prog_18_method_3_code (2 : Nat) (Option.none : Option Jvm.ClassFile.FieldType)).before args0 about1 = true := code_word (m := ⟨2, 2⟩) (meth := k2m2) (c := k2c2) (by decide +kernel) rfl rfl rfl (by decide +kernel)
set_option maxRecDepth 65536 in
theorem w_c4 : (Jvm.Cond.code ({ cls := "com/example/larder/larder/Node", name := "setHot", desc := "(Z)V" } : Jvm.MethodName) prog_18_method_5_code (2 : Nat) (Option.none : Option Jvm.ClassFile.FieldType)).before args0 about1 = true := code_word (m := ⟨2, 4⟩) (meth := k2m4) (c := k2c4) (by decide +kernel) rfl rfl rfl (by decide +kernel)
set_option maxRecDepth 65536 in
theorem w_c5 : (Jvm.Cond.code ({ cls := "com/example/larder/larder/Node", name := "weight", desc := "()I" } : Jvm.MethodName) prog_18_method_2_code (1 : Nat) (Option.some Jvm.ClassFile.FieldType.int)).before args0 about1 = true := code_word (m := ⟨2, 1⟩) (meth := k2m1) (c := k2c1) (by decide +kernel) rfl rfl rfl (by decide +kernel)
set_option maxRecDepth 65536 in
theorem w_c6 : (Jvm.Cond.code ({ cls := "com/example/larder/larder/Node", name := "isHot", desc := "()Z" } : Jvm.MethodName) prog_18_method_4_code (1 : Nat) (Option.some Jvm.ClassFile.FieldType.boolean)).before args0 about1 = true := code_word (m := ⟨2, 3⟩) (meth := k2m3) (c := k2c3) (by decide +kernel) rfl rfl rfl (by decide +kernel)
def codes1 : List Jvm.Cond := [Jvm.Cond.code x code maxLocals ret, Jvm.Cond.code ({ cls := "com/example/larder/larder/Node", name := "<init>", desc := "(Ljava/lang/Object;Ljava/lang/Object;)V" } : Jvm.MethodName) prog_18_method_1_code (3 : Nat) (Option.none : Option Jvm.ClassFile.FieldType), Jvm.Cond.code ({ cls := "java/lang/Object", name := "<init>", desc := "()V" } : Jvm.MethodName) object_method_1_code (1 : Nat) (Option.none : Option Jvm.ClassFile.FieldType), Jvm.Cond.code ({ cls := "com/example/larder/larder/Node", name := "setWeight", desc := "(I)V" } : Jvm.MethodName) prog_18_method_3_code (2 : Nat) (Option.none : Option Jvm.ClassFile.FieldType), Jvm.Cond.code ({ cls := "com/example/larder/larder/Node", name := "setHot", desc := "(Z)V" } : Jvm.MethodName) prog_18_method_5_code (2 : Nat) (Option.none : Option Jvm.ClassFile.FieldType), Jvm.Cond.code ({ cls := "com/example/larder/larder/Node", name := "weight", desc := "()I" } : Jvm.MethodName) prog_18_method_2_code (1 : Nat) (Option.some Jvm.ClassFile.FieldType.int), Jvm.Cond.code ({ cls := "com/example/larder/larder/Node", name := "isHot", desc := "()Z" } : Jvm.MethodName) prog_18_method_4_code (1 : Nat) (Option.some Jvm.ClassFile.FieldType.boolean)]
set_option maxRecDepth 65536 in
theorem codes_eq : words1.filter isCode = codes1 := rfl
theorem w_codes : ∀ c ∈ words1.filter isCode, c.before args0 about1 = true := by
  rw [codes_eq]
  intro c hc
  simp only [codes1, List.mem_cons, List.not_mem_nil, or_false] at hc
  rcases hc with rfl | rfl | rfl | rfl | rfl | rfl | rfl
  · exact w_c0
  · exact w_c1
  · exact w_c2
  · exact w_c3
  · exact w_c4
  · exact w_c5
  · exact w_c6
set_option maxRecDepth 65536 in
theorem w_t1 : (words1.take 24).all (fun c => isCode c || c.before args0 about1) = true := by decide +kernel
set_option maxRecDepth 65536 in
theorem w_t2 : (words1.drop 24).all (fun c => isCode c || c.before args0 about1) = true := by decide +kernel
theorem w_tables : (allAtoms (Jvm.Cond.code x code maxLocals ret :: tables_1)).before args0 about1 = true := by
  rw [allAtoms_all]
  show words1.all (fun c => c.before args0 about1) = true
  refine all_split ?_ w_codes
  rw [← List.take_append_drop 24 words1, List.all_append, w_t1, w_t2]
  rfl
set_option maxRecDepth 65536 in
theorem w_case : (Jvm.Cond.and given_1 narrow_1).before args0 about1 = true := by decide +kernel
theorem w_applies : (headSpec (Jvm.Cond.code x code maxLocals ret :: tables_1) room_1).applies x e0.platform about1 = true :=
  (Spec.applies_iff w_frames).mpr ⟨w_running, w_runnable, w_alone, w_named, w_hears, w_ripe, w_room, w_tables⟩
theorem atStart : AtStart classFile x code maxLocals ret World_1 tables_1 room_1 Calls_1 rest_1 Pre_1 launch0 p0 e0 about1 theMethod args0 below0 :=
  ⟨lists_1, trivial, launch0.admits_env _ _ _, launch0.least_env, fairChoices_fair.cas, fairChoices_fair.clock, w_frames, w_args, w_heap, w_applies, trivial, trivial, w_case⟩
end start1
theorem witness_1 : WitnessClaimed_1 := ⟨start1.p0, start1.e0, start1.about1, start1.theMethod, start1.args0, start1.below0, start1.atStart⟩
end Jvm.Pilot.@@N@@
