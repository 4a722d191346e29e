import JvmDerived
import JvmDerived.Pilot.@@N@@Statement
import JvmDerived.Pilot.@@N@@Code
set_option linter.unusedVariables false
set_option linter.unusedSimpArgs false

namespace Jvm.RoadKit
open Sem ClassFile Op Lib Jvm.Stand Jvm.Free Jvm.LawKit
section New
variable {p : Program} {l : Launch} {e : Env} {R : Room} {s : State} {m : MethodId} {args : Array Value} {below : List Frame} {meth : Method} {c : Code} {T : State} {locs : List Loc} {cells slots : Nat}
theorem retI (X : Stand p l e R s m args below meth c T locs cells slots) (hx : p.tables.exec = Jvm.exec) {pc : Nat} {Ls : Array Slot} {z : Int32} {rest : List Value} (hret : meth.sig.returnType = some .int) (hd : decode c.code pc = .ok (.ireturn, 1)) {fs : List Frame}
    (hl : ∀ (f : JFrame) (acts : List Action), f.method = m → f.locked = none → f.entered = [] → (doReturn e (T.setTop f) acts (some (.int z))).1 = T.setFrames fs) : Steps p.tables e below (T.setTop (mkF m pc Ls (.int z :: rest))) (T.setFrames fs) := by
  have hm' : T.vm.method? m = some meth := X.method'
  have hn : narrow .int (.int z) = .int z := rfl
  show Steps p.tables e below (T.setTop { method := m, pc := pc, locals := Ls, stack := _ :: rest, locked := none }) _
  jvm_step X.here [X.here.top, hx, hd, hm', hret, hn]
  first | (intro acts; rw [hl _ acts rfl rfl rfl]) | rw [hl _ _ rfl rfl rfl]
  exact Steps.refl _
end New
end Jvm.RoadKit
namespace Jvm.Pilot.@@N@@
open Jvm Jvm.ClassFile Sem Op Lib Jvm.Free Jvm.Stand Jvm.LawKit Jvm.RoadKit Bundle Jvm.Pilot.@@N@@.Jvm.D
abbrev y_0 : MethodName := ⟨"com/example/tripleweave/tripleweave/rdf/TextParser", "isAsciiLetter", "(I)Z"⟩
abbrev y_1 : MethodName := ⟨"com/example/tripleweave/tripleweave/rdf/TextParserIsAsciiLetterPinLaw", "reference", "(I)Z"⟩
abbrev own_zl (n : Nat) : List Value := List.replicate n (.long (0 : Int64))
abbrev own_zi (n : Nat) : List Value := List.replicate n (.int (0 : Int32))
abbrev own_zr (n : Nat) : List Value := List.replicate n .null
abbrev vi (x : Int32) : Slot := .val (.int x)
abbrev vj (x : Int64) : Slot := .val (.long x)
abbrev vr (x : Addr) : Slot := .val (.ref x)
section Steps
variable {p : Program} {l : Launch} {e : Env} {R : Room} {s : State} {m : MethodId} {args : Array Value} {below : List Frame} {meth : Method} {c : Code} {T : State} {locs : List Loc} {cells slots : Nat} {pc pc' : Nat} {Ls L' : Array Slot} {S : List Value} {t : State} {Z : State} {h : Heap} {a : Addr} {cl : Cell}
abbrev Go (p : Program) (e : Env) (below : List Frame) (T0 : State) (g0 : JFrame) (T : State) (g : JFrame) : Prop := ∀ t, Steps p.tables e below (T.setTop g) t → Steps p.tables e below (T0.setTop g0) t
theorem own_w {Z : State} {a0 : Array Value} (hw : ∀ d ∈ tables_1, d.before a0 Z = true) (k : Nat) {d : Jvm.Cond} (h : tables_1[k]? = some d) : d.before a0 Z = true := hw _ (List.mem_of_getElem? h)
theorem o_iloadN (X : Stand p l e R s m args below meth c T locs cells slots) (hx : p.tables.exec = Jvm.exec) {i : Fin 4} {v : Int32} (hd : decode c.code pc = .ok (.iload_n i, 1)) (hl : Ls[i.val]? = some (.val (.int v))) (k : Steps p.tables e below (T.setTop (mkF m (pc + 1) Ls (.int v :: S))) t) : Steps p.tables e below (T.setTop (mkF m pc Ls (S))) t := XS.iloadN X.here hx rfl hd hl k
theorem o_iload (X : Stand p l e R s m args below meth c T locs cells slots) (hx : p.tables.exec = Jvm.exec) {i : Nat} {v : Int32} (hd : decode c.code pc = .ok (.iload i, 2)) (hl : Ls[i]? = some (.val (.int v))) (k : Steps p.tables e below (T.setTop (mkF m (pc + 2) Ls (.int v :: S))) t) : Steps p.tables e below (T.setTop (mkF m pc Ls (S))) t := XS.iload X.here hx rfl hd hl k
theorem o_aloadN (X : Stand p l e R s m args below meth c T locs cells slots) (hx : p.tables.exec = Jvm.exec) {i : Fin 4} {v : Value} (hd : decode c.code pc = .ok (.aload_n i, 1)) (hl : Ls[i.val]? = some (.val v)) (hv : v.isRef = true) (k : Steps p.tables e below (T.setTop (mkF m (pc + 1) Ls (v :: S))) t) : Steps p.tables e below (T.setTop (mkF m pc Ls (S))) t := XS.aloadN X.here hx rfl hd hl hv k
theorem o_istoreN (X : Stand p l e R s m args below meth c T locs cells slots) (hx : p.tables.exec = Jvm.exec) {i : Fin 4} {v : Int32} (hd : decode c.code pc = .ok (.istore_n i, 1)) (hl : storeLocals Ls i.val (.int v) = some L') (k : Steps p.tables e below (T.setTop (mkF m (pc + 1) L' (S))) t) : Steps p.tables e below (T.setTop (mkF m pc Ls (.int v :: S))) t := XS.istoreN X.here hx rfl hd rfl hl k
theorem o_istore (X : Stand p l e R s m args below meth c T locs cells slots) (hx : p.tables.exec = Jvm.exec) {i : Nat} {v : Int32} (hd : decode c.code pc = .ok (.istore i, 2)) (hl : storeLocals Ls i (.int v) = some L') (k : Steps p.tables e below (T.setTop (mkF m (pc + 2) L' (S))) t) : Steps p.tables e below (T.setTop (mkF m pc Ls (.int v :: S))) t := XS.istore X.here hx rfl hd rfl hl k
theorem o_astoreN (X : Stand p l e R s m args below meth c T locs cells slots) (hx : p.tables.exec = Jvm.exec) {i : Fin 4} {v : Value} (hd : decode c.code pc = .ok (.astore_n i, 1)) (hv : v.isRef = true) (hl : storeLocals Ls i.val v = some L') (k : Steps p.tables e below (T.setTop (mkF m (pc + 1) L' (S))) t) : Steps p.tables e below (T.setTop (mkF m pc Ls (v :: S))) t := XS.astoreN X.here hx rfl hd rfl hv hl k
theorem o_iconst (X : Stand p l e R s m args below meth c T locs cells slots) (hx : p.tables.exec = Jvm.exec) {i : Int} {v : Int32} (hd : decode c.code pc = .ok (.iconst i, 1)) (hv : v = Int32.ofInt i) (k : Steps p.tables e below (T.setTop (mkF m (pc + 1) Ls (.int v :: S))) t) : Steps p.tables e below (T.setTop (mkF m pc Ls (S))) t := XS.iconst X.here hx rfl hd (hv ▸ k)
theorem o_bipush (X : Stand p l e R s m args below meth c T locs cells slots) (hx : p.tables.exec = Jvm.exec) {i : Int} {v : Int32} (hd : decode c.code pc = .ok (.bipush i, 2)) (hv : v = (Int8.ofInt i).toInt32) (k : Steps p.tables e below (T.setTop (mkF m (pc + 2) Ls (.int v :: S))) t) : Steps p.tables e below (T.setTop (mkF m pc Ls (S))) t := XS.bipush X.here hx rfl hd (hv ▸ k)
theorem o_isub (X : Stand p l e R s m args below meth c T locs cells slots) (hx : p.tables.exec = Jvm.exec) {x y : Int32} (hd : decode c.code pc = .ok (.isub, 1))  (k : Steps p.tables e below (T.setTop (mkF m (pc + 1) Ls (.int (x - y) :: S))) t) : Steps p.tables e below (T.setTop (mkF m pc Ls (.int y :: .int x :: S))) t := XS.isub X.here hx rfl hd rfl k
theorem o_iand (X : Stand p l e R s m args below meth c T locs cells slots) (hx : p.tables.exec = Jvm.exec) {x y : Int32} (hd : decode c.code pc = .ok (.iand, 1))  (k : Steps p.tables e below (T.setTop (mkF m (pc + 1) Ls (.int (x &&& y) :: S))) t) : Steps p.tables e below (T.setTop (mkF m pc Ls (.int y :: .int x :: S))) t := XS.iand X.here hx rfl hd rfl k
theorem o_ior (X : Stand p l e R s m args below meth c T locs cells slots) (hx : p.tables.exec = Jvm.exec) {x y : Int32} (hd : decode c.code pc = .ok (.ior, 1))  (k : Steps p.tables e below (T.setTop (mkF m (pc + 1) Ls (.int (x ||| y) :: S))) t) : Steps p.tables e below (T.setTop (mkF m pc Ls (.int y :: .int x :: S))) t := XS.ior X.here hx rfl hd rfl k
theorem o_dup (X : Stand p l e R s m args below meth c T locs cells slots) (hx : p.tables.exec = Jvm.exec) {x : Value} (hd : decode c.code pc = .ok (.dup, 1)) (hc : x.category = 1) (k : Steps p.tables e below (T.setTop (mkF m (pc + 1) Ls (x :: x :: S))) t) : Steps p.tables e below (T.setTop (mkF m pc Ls (x :: S))) t := XS.dup X.here hx rfl hd rfl hc k
theorem o_goto (X : Stand p l e R s m args below meth c T locs cells slots) (hx : p.tables.exec = Jvm.exec) {o : Int} (hd : decode c.code pc = .ok (.goto o, 3)) (hp : ((pc : Int) + o).toNat = pc') (ho : 0 ≤ (pc : Int) + o) (k : Steps p.tables e below (T.setTop (mkF m (pc') Ls (S))) t) : Steps p.tables e below (T.setTop (mkF m pc Ls (S))) t := XS.goto X.here hx rfl rfl hd ho hp k
theorem o_ifYes (X : Stand p l e R s m args below meth c T locs cells slots) (hx : p.tables.exec = Jvm.exec) {cd : ClassFile.Cond} {x : Int32} {o : Int} (hd : decode c.code pc = .ok (.ifCond cd o, 3)) (hp : ((pc : Int) + o).toNat = pc') (ho : 0 ≤ (pc : Int) + o) (hc : ifCond.holds cd x = true) (k : Steps p.tables e below (T.setTop (mkF m (pc') Ls (S))) t) : Steps p.tables e below (T.setTop (mkF m pc Ls (.int x :: S))) t := XS.ifYes X.here hx rfl rfl hd rfl hc ho hp k
theorem o_ifNo (X : Stand p l e R s m args below meth c T locs cells slots) (hx : p.tables.exec = Jvm.exec) {cd : ClassFile.Cond} {x : Int32} {o : Int} (hd : decode c.code pc = .ok (.ifCond cd o, 3)) (hc : ifCond.holds cd x = false) (k : Steps p.tables e below (T.setTop (mkF m (pc + 3) Ls (S))) t) : Steps p.tables e below (T.setTop (mkF m pc Ls (.int x :: S))) t := XS.ifNo X.here hx rfl hd rfl hc k
theorem o_icmpYes (X : Stand p l e R s m args below meth c T locs cells slots) (hx : p.tables.exec = Jvm.exec) {cd : ClassFile.Cond} {x y : Int32} {o : Int} (hd : decode c.code pc = .ok (.if_icmp cd o, 3)) (hp : ((pc : Int) + o).toNat = pc') (ho : 0 ≤ (pc : Int) + o) (hc : if_icmp.holds cd x y = true) (k : Steps p.tables e below (T.setTop (mkF m (pc') Ls (S))) t) : Steps p.tables e below (T.setTop (mkF m pc Ls (.int y :: .int x :: S))) t := XS.icmpYes X.here hx rfl rfl hd rfl hc ho hp k
theorem o_icmpNo (X : Stand p l e R s m args below meth c T locs cells slots) (hx : p.tables.exec = Jvm.exec) {cd : ClassFile.Cond} {x y : Int32} {o : Int} (hd : decode c.code pc = .ok (.if_icmp cd o, 3)) (hc : if_icmp.holds cd x y = false) (k : Steps p.tables e below (T.setTop (mkF m (pc + 3) Ls (S))) t) : Steps p.tables e below (T.setTop (mkF m pc Ls (.int y :: .int x :: S))) t := XS.icmpNo X.here hx rfl hd rfl hc k
theorem o_iaload (X : Stand p l e R s m args below meth c T locs cells slots) (hx : p.tables.exec = Jvm.exec) (hZ : Z.Warmed39 s.vm) (eT : T.heap = h) {j : Int32} {v : Int32} (A : Arr Z h a cl .int) (hin : ¬ (j < 0 ∨ cl.slots.size ≤ j.toNatClampNeg)) (hat : cl.slots[j.toNatClampNeg]? = some (.int v)) (hd : decode c.code pc = .ok (.iaload, 1))  (k : Steps p.tables e below (T.setTop (mkF m (pc + 1) Ls (.int v :: S))) t) : Steps p.tables e below (T.setTop (mkF m pc Ls (.int j :: .ref a :: S))) t := X.iaload hx (j := j) (v := .int v) (by rw [eT]; exact A.1) (State.isArrayOf_alike hZ.alike A.2.1) A.2.2 hin hat (g := mkF m pc Ls (.int j :: .ref a :: S)) rfl rfl hd _ k
end Steps
theorem d1_0 : decode prog_23_method_21_code 0 = .ok (.iload_n 0, 1) := by decide +kernel
theorem d1_1 : decode prog_23_method_21_code 1 = .ok (.bipush 97, 2) := by decide +kernel
theorem d1_3 : decode prog_23_method_21_code 3 = .ok (.if_icmp .lt 9, 3) := by decide +kernel
theorem d1_6 : decode prog_23_method_21_code 6 = .ok (.iload_n 0, 1) := by decide +kernel
theorem d1_7 : decode prog_23_method_21_code 7 = .ok (.bipush 122, 2) := by decide +kernel
theorem d1_9 : decode prog_23_method_21_code 9 = .ok (.if_icmp .le 15, 3) := by decide +kernel
theorem d1_12 : decode prog_23_method_21_code 12 = .ok (.iload_n 0, 1) := by decide +kernel
theorem d1_13 : decode prog_23_method_21_code 13 = .ok (.bipush 65, 2) := by decide +kernel
theorem d1_15 : decode prog_23_method_21_code 15 = .ok (.if_icmp .lt 13, 3) := by decide +kernel
theorem d1_18 : decode prog_23_method_21_code 18 = .ok (.iload_n 0, 1) := by decide +kernel
theorem d1_19 : decode prog_23_method_21_code 19 = .ok (.bipush 90, 2) := by decide +kernel
theorem d1_21 : decode prog_23_method_21_code 21 = .ok (.if_icmp .gt 7, 3) := by decide +kernel
theorem d1_24 : decode prog_23_method_21_code 24 = .ok (.iconst 1, 1) := by decide +kernel
theorem d1_25 : decode prog_23_method_21_code 25 = .ok (.goto 4, 3) := by decide +kernel
theorem d1_28 : decode prog_23_method_21_code 28 = .ok (.iconst 0, 1) := by decide +kernel
theorem d1_29 : decode prog_23_method_21_code 29 = .ok (.ireturn, 1) := by decide +kernel
theorem pn_1 : plainName "com/example/tripleweave/tripleweave/rdf/TextParser" = true := by first | (simp [plainName, overriddenIn]; done) | decide +kernel
theorem ef_1 (m : MethodId) (x0 : Int32) : entryFrame m #[(.int x0)] 1 = mkF m 0 #[vi x0] [] := by first | (simp [entryFrame, mkF, argsToLocals, Value.category]; done) | rfl
def f1 (p1 : Int32) : Int32 := (if p1 < (97 : Int32) then (if p1 < (65 : Int32) then (0 : Int32) else (if (90 : Int32) < p1 then (0 : Int32) else (1 : Int32))) else (if (122 : Int32) < p1 then (if p1 < (65 : Int32) then (0 : Int32) else (if (90 : Int32) < p1 then (0 : Int32) else (1 : Int32))) else (1 : Int32)))
def Q1 (Z : State) (p1 : Int32) (h0 : Heap) (n0 : Nat) (v : Option Value) (h : Heap) (L : List Loc) : Prop := v = some (.int (f1 p1)) ∧ Fr n0 L ∧ h = h0
set_option maxRecDepth 65536 in
set_option maxHeartbeats 40000000 in
theorem rm1 (l : Launch) (Z : State) (a0 : Array Value) (hw : ∀ d ∈ tables_1, d.before a0 Z = true) (ws : List Jvm.Cond) (p1 : Int32) (h0 : Heap) (n0 : Nat) (Z0 : n0 ≤ h0.size) :
    MetFree l y_0 (head1 (Jvm.Cond.code y_0 prog_23_method_21_code 1 (some .boolean) :: ws) ({ frames := 0, cells := 0, slots := 0, locals := 0 } : Room)) (fun a U => a = #[(.int p1)] ∧ Z.Warmed39 U.vm ∧ U.heap = h0) (fun _ _ _ _ _ => True) (fun _ U o U' => ∃ v L, o = .returned v ∧ Q1 Z p1 h0 n0 v U'.heap L ∧ FrameEnd U o U' L ({ frames := 0, cells := 0, slots := 0, locals := 0 } : Room).cells ({ frames := 0, cells := 0, slots := 0, locals := 0 } : Room).slots) := by
  refine MetFree.of_bodySF (plainFor_of_name pn_1) hisR ?_
  intro p e s m args below meth c s₁ Bd hml0 hP hK
  obtain ⟨rfl, hZ, hh⟩ := hP
  have hx := Bd.exec
  have hby := Bd.bytes
  have hml : c.maxLocals = 1 := hml0
  have hown : s.vm.findClass "com/example/tripleweave/tripleweave/rdf/TextParser" = some m.cls := findClass_of_methodNamed Bd.named
  have hnm := (name_of_methodNamed Bd.named Bd.method).1
  have X0 : Stand p l e ({ frames := 0, cells := 0, slots := 0, locals := 0 } : Room) s m #[(.int p1)] below meth c s₁ [] 0 0 := Stand.of_body Bd
  have e0 : s₁.heap = h0 := by rw [← hh, Bd.state]; rfl
  have N0 := Fr.nil n0
  obtain ⟨F0, hF0⟩ : ∃ F : JFrame, F = entryFrame m #[(.int p1)] 1 := ⟨_, rfl⟩
  have pre0 : ∀ t, Steps p.tables e below (s₁.setTop F0) t → Steps p.tables e below (s₁.setTop (entryFrame m #[(.int p1)] 1)) t := fun t k => hF0 ▸ k
  have go0 : Go p e below s₁ F0 s₁ (mkF m 0 #[vi p1] []) := fun t k => castTop (hF0.trans (ef_1 m p1)) k
  have go1 : Go p e below s₁ F0 s₁ (mkF m 3 #[vi p1] [(.int (97 : Int32)), (.int p1)]) := by
    intro t kt
    refine go0 t ?_
    refine o_iloadN X0 hx (hb hby d1_0) rfl ?_
    refine o_bipush X0 hx (hb hby d1_1) (v := 97) rfl ?_
    exact kt
  by_cases hc3_2 : p1 < (97 : Int32)
  · skip
    have go3 : Go p e below s₁ F0 s₁ (mkF m 15 #[vi p1] [(.int (65 : Int32)), (.int p1)]) := by
      intro t kt
      refine go1 t ?_
      refine o_icmpYes X0 hx (hb hby d1_3) (pc' := 12) rfl (by decide) (tlt hc3_2).1 ?_
      refine o_iloadN X0 hx (hb hby d1_12) rfl ?_
      refine o_bipush X0 hx (hb hby d1_13) (v := 65) rfl ?_
      exact kt
    by_cases hc15_4 : p1 < (65 : Int32)
    · skip
      have go5 : Go p e below s₁ F0 s₁ (mkF m 29 #[vi p1] [(.int (0 : Int32))]) := by
        intro t kt
        refine go3 t ?_
        refine o_icmpYes X0 hx (hb hby d1_15) (pc' := 28) rfl (by decide) (tlt hc15_4).1 ?_
        refine o_iconst X0 hx (hb hby d1_28) (v := 0) rfl ?_
        exact kt
      obtain ⟨fs, hr, hrun, hended, hW, hsame⟩ := X0.leave (v := some (.int (0 : Int32))) (fun h => by rw [Bd.returns] at h; cases h)
      refine ⟨_, _, pre0 _ (go5 _ ?_), hrun, hended, _, _, rfl, ?_, ⟨_, rfl⟩, hW, hsame.mono (by decide) (by decide)⟩
      · skip
        exact retN X0 hx (t := .boolean) Bd.returns (by simp) (hb hby d1_29) hr
      · show Q1 Z p1 h0 n0 _ s₁.heap _
        rw [e0]
        exact ⟨(congrArg (fun z => some (Value.int z)) (show (0 : Int32) = f1 p1 from by unfold f1; rw [if_pos hc3_2, if_pos hc15_4])), N0, rfl⟩
    · skip
      have go6 : Go p e below s₁ F0 s₁ (mkF m 21 #[vi p1] [(.int (90 : Int32)), (.int p1)]) := by
        intro t kt
        refine go3 t ?_
        refine o_icmpNo X0 hx (hb hby d1_15) (flt hc15_4).1 ?_
        refine o_iloadN X0 hx (hb hby d1_18) rfl ?_
        refine o_bipush X0 hx (hb hby d1_19) (v := 90) rfl ?_
        exact kt
      by_cases hc21_7 : (90 : Int32) < p1
      · skip
        have go8 : Go p e below s₁ F0 s₁ (mkF m 29 #[vi p1] [(.int (0 : Int32))]) := by
          intro t kt
          refine go6 t ?_
          refine o_icmpYes X0 hx (hb hby d1_21) (pc' := 28) rfl (by decide) (tlt hc21_7).2.2.1 ?_
          refine o_iconst X0 hx (hb hby d1_28) (v := 0) rfl ?_
          exact kt
        obtain ⟨fs, hr, hrun, hended, hW, hsame⟩ := X0.leave (v := some (.int (0 : Int32))) (fun h => by rw [Bd.returns] at h; cases h)
        refine ⟨_, _, pre0 _ (go8 _ ?_), hrun, hended, _, _, rfl, ?_, ⟨_, rfl⟩, hW, hsame.mono (by decide) (by decide)⟩
        · skip
          exact retN X0 hx (t := .boolean) Bd.returns (by simp) (hb hby d1_29) hr
        · show Q1 Z p1 h0 n0 _ s₁.heap _
          rw [e0]
          exact ⟨(congrArg (fun z => some (Value.int z)) (show (0 : Int32) = f1 p1 from by unfold f1; rw [if_pos hc3_2, if_neg hc15_4, if_pos hc21_7])), N0, rfl⟩
      · skip
        have go9 : Go p e below s₁ F0 s₁ (mkF m 29 #[vi p1] [(.int (1 : Int32))]) := by
          intro t kt
          refine go6 t ?_
          refine o_icmpNo X0 hx (hb hby d1_21) (flt hc21_7).2.2.1 ?_
          refine o_iconst X0 hx (hb hby d1_24) (v := 1) rfl ?_
          refine o_goto X0 hx (hb hby d1_25) (pc' := 29) rfl (by decide) ?_
          exact kt
        obtain ⟨fs, hr, hrun, hended, hW, hsame⟩ := X0.leave (v := some (.int (1 : Int32))) (fun h => by rw [Bd.returns] at h; cases h)
        refine ⟨_, _, pre0 _ (go9 _ ?_), hrun, hended, _, _, rfl, ?_, ⟨_, rfl⟩, hW, hsame.mono (by decide) (by decide)⟩
        · skip
          exact retN X0 hx (t := .boolean) Bd.returns (by simp) (hb hby d1_29) hr
        · show Q1 Z p1 h0 n0 _ s₁.heap _
          rw [e0]
          exact ⟨(congrArg (fun z => some (Value.int z)) (show (1 : Int32) = f1 p1 from by unfold f1; rw [if_pos hc3_2, if_neg hc15_4, if_neg hc21_7])), N0, rfl⟩
  · skip
    have go10 : Go p e below s₁ F0 s₁ (mkF m 9 #[vi p1] [(.int (122 : Int32)), (.int p1)]) := by
      intro t kt
      refine go1 t ?_
      refine o_icmpNo X0 hx (hb hby d1_3) (flt hc3_2).1 ?_
      refine o_iloadN X0 hx (hb hby d1_6) rfl ?_
      refine o_bipush X0 hx (hb hby d1_7) (v := 122) rfl ?_
      exact kt
    by_cases hc9_11 : (122 : Int32) < p1
    · skip
      have go12 : Go p e below s₁ F0 s₁ (mkF m 15 #[vi p1] [(.int (65 : Int32)), (.int p1)]) := by
        intro t kt
        refine go10 t ?_
        refine o_icmpNo X0 hx (hb hby d1_9) (tlt hc9_11).2.2.2 ?_
        refine o_iloadN X0 hx (hb hby d1_12) rfl ?_
        refine o_bipush X0 hx (hb hby d1_13) (v := 65) rfl ?_
        exact kt
      by_cases hc15_13 : p1 < (65 : Int32)
      · skip
        have go14 : Go p e below s₁ F0 s₁ (mkF m 29 #[vi p1] [(.int (0 : Int32))]) := by
          intro t kt
          refine go12 t ?_
          refine o_icmpYes X0 hx (hb hby d1_15) (pc' := 28) rfl (by decide) (tlt hc15_13).1 ?_
          refine o_iconst X0 hx (hb hby d1_28) (v := 0) rfl ?_
          exact kt
        obtain ⟨fs, hr, hrun, hended, hW, hsame⟩ := X0.leave (v := some (.int (0 : Int32))) (fun h => by rw [Bd.returns] at h; cases h)
        refine ⟨_, _, pre0 _ (go14 _ ?_), hrun, hended, _, _, rfl, ?_, ⟨_, rfl⟩, hW, hsame.mono (by decide) (by decide)⟩
        · skip
          exact retN X0 hx (t := .boolean) Bd.returns (by simp) (hb hby d1_29) hr
        · show Q1 Z p1 h0 n0 _ s₁.heap _
          rw [e0]
          exact ⟨(congrArg (fun z => some (Value.int z)) (show (0 : Int32) = f1 p1 from by unfold f1; rw [if_neg hc3_2, if_pos hc9_11, if_pos hc15_13])), N0, rfl⟩
      · skip
        have go15 : Go p e below s₁ F0 s₁ (mkF m 21 #[vi p1] [(.int (90 : Int32)), (.int p1)]) := by
          intro t kt
          refine go12 t ?_
          refine o_icmpNo X0 hx (hb hby d1_15) (flt hc15_13).1 ?_
          refine o_iloadN X0 hx (hb hby d1_18) rfl ?_
          refine o_bipush X0 hx (hb hby d1_19) (v := 90) rfl ?_
          exact kt
        by_cases hc21_16 : (90 : Int32) < p1
        · skip
          have go17 : Go p e below s₁ F0 s₁ (mkF m 29 #[vi p1] [(.int (0 : Int32))]) := by
            intro t kt
            refine go15 t ?_
            refine o_icmpYes X0 hx (hb hby d1_21) (pc' := 28) rfl (by decide) (tlt hc21_16).2.2.1 ?_
            refine o_iconst X0 hx (hb hby d1_28) (v := 0) rfl ?_
            exact kt
          obtain ⟨fs, hr, hrun, hended, hW, hsame⟩ := X0.leave (v := some (.int (0 : Int32))) (fun h => by rw [Bd.returns] at h; cases h)
          refine ⟨_, _, pre0 _ (go17 _ ?_), hrun, hended, _, _, rfl, ?_, ⟨_, rfl⟩, hW, hsame.mono (by decide) (by decide)⟩
          · skip
            exact retN X0 hx (t := .boolean) Bd.returns (by simp) (hb hby d1_29) hr
          · show Q1 Z p1 h0 n0 _ s₁.heap _
            rw [e0]
            exact ⟨(congrArg (fun z => some (Value.int z)) (show (0 : Int32) = f1 p1 from by unfold f1; rw [if_neg hc3_2, if_pos hc9_11, if_neg hc15_13, if_pos hc21_16])), N0, rfl⟩
        · skip
          have go18 : Go p e below s₁ F0 s₁ (mkF m 29 #[vi p1] [(.int (1 : Int32))]) := by
            intro t kt
            refine go15 t ?_
            refine o_icmpNo X0 hx (hb hby d1_21) (flt hc21_16).2.2.1 ?_
            refine o_iconst X0 hx (hb hby d1_24) (v := 1) rfl ?_
            refine o_goto X0 hx (hb hby d1_25) (pc' := 29) rfl (by decide) ?_
            exact kt
          obtain ⟨fs, hr, hrun, hended, hW, hsame⟩ := X0.leave (v := some (.int (1 : Int32))) (fun h => by rw [Bd.returns] at h; cases h)
          refine ⟨_, _, pre0 _ (go18 _ ?_), hrun, hended, _, _, rfl, ?_, ⟨_, rfl⟩, hW, hsame.mono (by decide) (by decide)⟩
          · skip
            exact retN X0 hx (t := .boolean) Bd.returns (by simp) (hb hby d1_29) hr
          · show Q1 Z p1 h0 n0 _ s₁.heap _
            rw [e0]
            exact ⟨(congrArg (fun z => some (Value.int z)) (show (1 : Int32) = f1 p1 from by unfold f1; rw [if_neg hc3_2, if_pos hc9_11, if_neg hc15_13, if_neg hc21_16])), N0, rfl⟩
    · skip
      have go19 : Go p e below s₁ F0 s₁ (mkF m 29 #[vi p1] [(.int (1 : Int32))]) := by
        intro t kt
        refine go10 t ?_
        refine o_icmpYes X0 hx (hb hby d1_9) (pc' := 24) rfl (by decide) (flt hc9_11).2.2.2 ?_
        refine o_iconst X0 hx (hb hby d1_24) (v := 1) rfl ?_
        refine o_goto X0 hx (hb hby d1_25) (pc' := 29) rfl (by decide) ?_
        exact kt
      obtain ⟨fs, hr, hrun, hended, hW, hsame⟩ := X0.leave (v := some (.int (1 : Int32))) (fun h => by rw [Bd.returns] at h; cases h)
      refine ⟨_, _, pre0 _ (go19 _ ?_), hrun, hended, _, _, rfl, ?_, ⟨_, rfl⟩, hW, hsame.mono (by decide) (by decide)⟩
      · skip
        exact retN X0 hx (t := .boolean) Bd.returns (by simp) (hb hby d1_29) hr
      · show Q1 Z p1 h0 n0 _ s₁.heap _
        rw [e0]
        exact ⟨(congrArg (fun z => some (Value.int z)) (show (1 : Int32) = f1 p1 from by unfold f1; rw [if_neg hc3_2, if_neg hc9_11])), N0, rfl⟩

theorem d2_0 : decode method_3_code 0 = .ok (.iload_n 0, 1) := by decide +kernel
theorem d2_1 : decode method_3_code 1 = .ok (.bipush 32, 2) := by decide +kernel
theorem d2_3 : decode method_3_code 3 = .ok (.ior, 1) := by decide +kernel
theorem d2_4 : decode method_3_code 4 = .ok (.bipush 97, 2) := by decide +kernel
theorem d2_6 : decode method_3_code 6 = .ok (.isub, 1) := by decide +kernel
theorem d2_7 : decode method_3_code 7 = .ok (.istore_n 1, 1) := by decide +kernel
theorem d2_8 : decode method_3_code 8 = .ok (.iload_n 1, 1) := by decide +kernel
theorem d2_9 : decode method_3_code 9 = .ok (.ifCond .lt 13, 3) := by decide +kernel
theorem d2_12 : decode method_3_code 12 = .ok (.iload_n 1, 1) := by decide +kernel
theorem d2_13 : decode method_3_code 13 = .ok (.bipush 26, 2) := by decide +kernel
theorem d2_15 : decode method_3_code 15 = .ok (.if_icmp .ge 7, 3) := by decide +kernel
theorem d2_18 : decode method_3_code 18 = .ok (.iconst 1, 1) := by decide +kernel
theorem d2_19 : decode method_3_code 19 = .ok (.goto 4, 3) := by decide +kernel
theorem d2_22 : decode method_3_code 22 = .ok (.iconst 0, 1) := by decide +kernel
theorem d2_23 : decode method_3_code 23 = .ok (.ireturn, 1) := by decide +kernel
theorem pn_2 : plainName "com/example/tripleweave/tripleweave/rdf/TextParserIsAsciiLetterPinLaw" = true := by first | (simp [plainName, overriddenIn]; done) | decide +kernel
theorem ef_2 (m : MethodId) (x0 : Int32) : entryFrame m #[(.int x0)] 2 = mkF m 0 #[vi x0, .unset] [] := by first | (simp [entryFrame, mkF, argsToLocals, Value.category]; done) | rfl
def f2 (p1 : Int32) : Int32 := (if ((p1 ||| (32 : Int32)) - (97 : Int32)) < (0 : Int32) then (0 : Int32) else (if ((p1 ||| (32 : Int32)) - (97 : Int32)) < (26 : Int32) then (1 : Int32) else (0 : Int32)))
def Q2 (Z : State) (p1 : Int32) (h0 : Heap) (n0 : Nat) (v : Option Value) (h : Heap) (L : List Loc) : Prop := v = some (.int (f2 p1)) ∧ Fr n0 L ∧ h = h0
set_option maxRecDepth 65536 in
set_option maxHeartbeats 40000000 in
theorem rm2 (l : Launch) (Z : State) (a0 : Array Value) (hw : ∀ d ∈ tables_1, d.before a0 Z = true) (ws : List Jvm.Cond) (p1 : Int32) (h0 : Heap) (n0 : Nat) (Z0 : n0 ≤ h0.size) :
    MetFree l y_1 (head1 (Jvm.Cond.code y_1 method_3_code 2 (some .boolean) :: ws) ({ frames := 0, cells := 0, slots := 0, locals := 0 } : Room)) (fun a U => a = #[(.int p1)] ∧ Z.Warmed39 U.vm ∧ U.heap = h0) (fun _ _ _ _ _ => True) (fun _ U o U' => ∃ v L, o = .returned v ∧ Q2 Z p1 h0 n0 v U'.heap L ∧ FrameEnd U o U' L ({ frames := 0, cells := 0, slots := 0, locals := 0 } : Room).cells ({ frames := 0, cells := 0, slots := 0, locals := 0 } : Room).slots) := by
  refine MetFree.of_bodySF (plainFor_of_name pn_2) hisR ?_
  intro p e s m args below meth c s₁ Bd hml0 hP hK
  obtain ⟨rfl, hZ, hh⟩ := hP
  have hx := Bd.exec
  have hby := Bd.bytes
  have hml : c.maxLocals = 2 := hml0
  have hown : s.vm.findClass "com/example/tripleweave/tripleweave/rdf/TextParserIsAsciiLetterPinLaw" = some m.cls := findClass_of_methodNamed Bd.named
  have hnm := (name_of_methodNamed Bd.named Bd.method).1
  have X0 : Stand p l e ({ frames := 0, cells := 0, slots := 0, locals := 0 } : Room) s m #[(.int p1)] below meth c s₁ [] 0 0 := Stand.of_body Bd
  have e0 : s₁.heap = h0 := by rw [← hh, Bd.state]; rfl
  have N0 := Fr.nil n0
  obtain ⟨F0, hF0⟩ : ∃ F : JFrame, F = entryFrame m #[(.int p1)] 2 := ⟨_, rfl⟩
  have pre0 : ∀ t, Steps p.tables e below (s₁.setTop F0) t → Steps p.tables e below (s₁.setTop (entryFrame m #[(.int p1)] 2)) t := fun t k => hF0 ▸ k
  have go0 : Go p e below s₁ F0 s₁ (mkF m 0 #[vi p1, .unset] []) := fun t k => castTop (hF0.trans (ef_2 m p1)) k
  have go1 : Go p e below s₁ F0 s₁ (mkF m 9 #[vi p1, vi ((p1 ||| (32 : Int32)) - (97 : Int32))] [(.int ((p1 ||| (32 : Int32)) - (97 : Int32)))]) := by
    intro t kt
    refine go0 t ?_
    refine o_iloadN X0 hx (hb hby d2_0) rfl ?_
    refine o_bipush X0 hx (hb hby d2_1) (v := 32) rfl ?_
    refine o_ior X0 hx (hb hby d2_3) ?_
    refine o_bipush X0 hx (hb hby d2_4) (v := 97) rfl ?_
    refine o_isub X0 hx (hb hby d2_6) ?_
    refine o_istoreN X0 hx (hb hby d2_7) (L' := #[vi p1, vi ((p1 ||| (32 : Int32)) - (97 : Int32))]) rfl ?_
    refine o_iloadN X0 hx (hb hby d2_8) rfl ?_
    exact kt
  by_cases hc9_2 : ((p1 ||| (32 : Int32)) - (97 : Int32)) < (0 : Int32)
  · skip
    have go3 : Go p e below s₁ F0 s₁ (mkF m 23 #[vi p1, vi ((p1 ||| (32 : Int32)) - (97 : Int32))] [(.int (0 : Int32))]) := by
      intro t kt
      refine go1 t ?_
      refine o_ifYes X0 hx (hb hby d2_9) (pc' := 22) rfl (by decide) ((if0 _ _).trans (tlt hc9_2).1) ?_
      refine o_iconst X0 hx (hb hby d2_22) (v := 0) rfl ?_
      exact kt
    obtain ⟨fs, hr, hrun, hended, hW, hsame⟩ := X0.leave (v := some (.int (0 : Int32))) (fun h => by rw [Bd.returns] at h; cases h)
    refine ⟨_, _, pre0 _ (go3 _ ?_), hrun, hended, _, _, rfl, ?_, ⟨_, rfl⟩, hW, hsame.mono (by decide) (by decide)⟩
    · skip
      exact retN X0 hx (t := .boolean) Bd.returns (by simp) (hb hby d2_23) hr
    · show Q2 Z p1 h0 n0 _ s₁.heap _
      rw [e0]
      exact ⟨(congrArg (fun z => some (Value.int z)) (show (0 : Int32) = f2 p1 from by unfold f2; rw [if_pos hc9_2])), N0, rfl⟩
  · skip
    have go4 : Go p e below s₁ F0 s₁ (mkF m 15 #[vi p1, vi ((p1 ||| (32 : Int32)) - (97 : Int32))] [(.int (26 : Int32)), (.int ((p1 ||| (32 : Int32)) - (97 : Int32)))]) := by
      intro t kt
      refine go1 t ?_
      refine o_ifNo X0 hx (hb hby d2_9) ((if0 _ _).trans (flt hc9_2).1) ?_
      refine o_iloadN X0 hx (hb hby d2_12) rfl ?_
      refine o_bipush X0 hx (hb hby d2_13) (v := 26) rfl ?_
      exact kt
    by_cases hc15_5 : ((p1 ||| (32 : Int32)) - (97 : Int32)) < (26 : Int32)
    · skip
      have go6 : Go p e below s₁ F0 s₁ (mkF m 23 #[vi p1, vi ((p1 ||| (32 : Int32)) - (97 : Int32))] [(.int (1 : Int32))]) := by
        intro t kt
        refine go4 t ?_
        refine o_icmpNo X0 hx (hb hby d2_15) (tlt hc15_5).2.1 ?_
        refine o_iconst X0 hx (hb hby d2_18) (v := 1) rfl ?_
        refine o_goto X0 hx (hb hby d2_19) (pc' := 23) rfl (by decide) ?_
        exact kt
      obtain ⟨fs, hr, hrun, hended, hW, hsame⟩ := X0.leave (v := some (.int (1 : Int32))) (fun h => by rw [Bd.returns] at h; cases h)
      refine ⟨_, _, pre0 _ (go6 _ ?_), hrun, hended, _, _, rfl, ?_, ⟨_, rfl⟩, hW, hsame.mono (by decide) (by decide)⟩
      · skip
        exact retN X0 hx (t := .boolean) Bd.returns (by simp) (hb hby d2_23) hr
      · show Q2 Z p1 h0 n0 _ s₁.heap _
        rw [e0]
        exact ⟨(congrArg (fun z => some (Value.int z)) (show (1 : Int32) = f2 p1 from by unfold f2; rw [if_neg hc9_2, if_pos hc15_5])), N0, rfl⟩
    · skip
      have go7 : Go p e below s₁ F0 s₁ (mkF m 23 #[vi p1, vi ((p1 ||| (32 : Int32)) - (97 : Int32))] [(.int (0 : Int32))]) := by
        intro t kt
        refine go4 t ?_
        refine o_icmpYes X0 hx (hb hby d2_15) (pc' := 22) rfl (by decide) (flt hc15_5).2.1 ?_
        refine o_iconst X0 hx (hb hby d2_22) (v := 0) rfl ?_
        exact kt
      obtain ⟨fs, hr, hrun, hended, hW, hsame⟩ := X0.leave (v := some (.int (0 : Int32))) (fun h => by rw [Bd.returns] at h; cases h)
      refine ⟨_, _, pre0 _ (go7 _ ?_), hrun, hended, _, _, rfl, ?_, ⟨_, rfl⟩, hW, hsame.mono (by decide) (by decide)⟩
      · skip
        exact retN X0 hx (t := .boolean) Bd.returns (by simp) (hb hby d2_23) hr
      · show Q2 Z p1 h0 n0 _ s₁.heap _
        rw [e0]
        exact ⟨(congrArg (fun z => some (Value.int z)) (show (0 : Int32) = f2 p1 from by unfold f2; rw [if_neg hc9_2, if_neg hc15_5])), N0, rfl⟩

theorem own_split (v a b : BitVec 32) (h : a &&& b = 0#32) (h' : a ||| b = BitVec.allOnes 32) : (v &&& a) + (v &&& b) = v := by
  rw [BitVec.add_eq_or_of_and_eq_zero]
  · apply BitVec.eq_of_getLsbD_eq
    intro i hi
    have q := congrArg (fun z => z.getLsbD i) h'
    simp only [BitVec.getLsbD_or, BitVec.getLsbD_and, BitVec.getLsbD_allOnes, hi, decide_true] at q ⊢
    cases v.getLsbD i <;> simp_all
  · apply BitVec.eq_of_getLsbD_eq
    intro i hi
    have q := congrArg (fun z => z.getLsbD i) h
    simp only [BitVec.getLsbD_and, BitVec.getLsbD_zero] at q ⊢
    cases v.getLsbD i <;> simp_all
theorem own_disj (v a b : BitVec 32) (h : a &&& b = 0#32) : (v &&& a) + (v &&& b) = v &&& (a ||| b) := by
  rw [BitVec.add_eq_or_of_and_eq_zero]
  · apply BitVec.eq_of_getLsbD_eq
    intro i hi
    simp only [BitVec.getLsbD_or, BitVec.getLsbD_and]
    cases v.getLsbD i <;> simp
  · apply BitVec.eq_of_getLsbD_eq
    intro i hi
    have q := congrArg (fun z => z.getLsbD i) h
    simp only [BitVec.getLsbD_and, BitVec.getLsbD_zero] at q ⊢
    cases v.getLsbD i <;> simp_all
theorem own_ordis (v a b : BitVec 32) (h : a &&& b = 0#32) (h' : a ||| b = BitVec.allOnes 32) : v ||| b = (v &&& a) + b := by
  rw [BitVec.add_eq_or_of_and_eq_zero]
  · apply BitVec.eq_of_getLsbD_eq
    intro i hi
    have q := congrArg (fun z => z.getLsbD i) h'
    simp only [BitVec.getLsbD_or, BitVec.getLsbD_and, BitVec.getLsbD_allOnes, hi, decide_true] at q ⊢
    cases v.getLsbD i <;> simp_all
  · apply BitVec.eq_of_getLsbD_eq
    intro i hi
    have q := congrArg (fun z => z.getLsbD i) h
    simp only [BitVec.getLsbD_and, BitVec.getLsbD_zero] at q ⊢
    cases v.getLsbD i <;> simp_all
theorem own_or32 (p : Int32) : (p ||| (32 : Int32)).toInt = p.toInt - (p.toInt % 64 - p.toInt % 32) + 32 := by
  have e1 : (p &&& (32 : Int32)) + (p &&& (31 : Int32)) = (p &&& (63 : Int32)) := by
    apply Int32.toBitVec_inj.mp
    exact own_disj p.toBitVec (32 : Int32).toBitVec (31 : Int32).toBitVec (by decide)
  have e2 : (p &&& (-33 : Int32)) + (p &&& (32 : Int32)) = p := by
    apply Int32.toBitVec_inj.mp
    exact own_split p.toBitVec (-33 : Int32).toBitVec (32 : Int32).toBitVec (by decide) (by decide)
  have e3 : (p ||| (32 : Int32)) = (p &&& (-33 : Int32)) + (32 : Int32) := by
    apply Int32.toBitVec_inj.mp
    exact own_ordis p.toBitVec (-33 : Int32).toBitVec (32 : Int32).toBitVec (by decide) (by decide)
  have h1 : (p &&& (31 : Int32)).toInt = p.toInt % 32 := c_mask p 31 5 (by decide) (by decide)
  have h2 : (p &&& (63 : Int32)).toInt = p.toInt % 64 := c_mask p 63 6 (by decide) (by decide)
  have a1 := c_iadd (p &&& (32 : Int32)) (p &&& (31 : Int32))
  have a2 := c_iadd (p &&& (-33 : Int32)) (p &&& (32 : Int32))
  have a3 := c_iadd (p &&& (-33 : Int32)) (32 : Int32)
  rw [e1] at a1
  rw [e2] at a2
  rw [← e3, show (32 : Int32).toInt = 32 from rfl] at a3
  have := c_and p (32 : Int32) (by decide)
  rw [show (32 : Int32).toInt = 32 from rfl] at this
  have := (p ||| (32 : Int32)).toInt_lt; have := (p ||| (32 : Int32)).le_toInt; have := p.toInt_lt; have := p.le_toInt
  have := (p &&& (-33 : Int32)).toInt_lt; have := (p &&& (-33 : Int32)).le_toInt
  omega

def own_edge (n : Nat) : Int32 := ([64, 65, 90, 91, 96, 97, 122, 123] : List Int32).getD n 0
theorem own_at : ∀ n : Nat, ([(.int (64 : Int32)), (.int (65 : Int32)), (.int (90 : Int32)), (.int (91 : Int32)), (.int (96 : Int32)), (.int (97 : Int32)), (.int (122 : Int32)), (.int (123 : Int32))] : List Value).getD n (.int (0 : Int32)) = .int (own_edge n)
  | 0 => rfl
  | 1 => rfl
  | 2 => rfl
  | 3 => rfl
  | 4 => rfl
  | 5 => rfl
  | 6 => rfl
  | 7 => rfl
  | n + 8 => rfl
theorem own_in (k : Int32) : ¬ (k &&& (7 : Int32)) < 0 ∧ (k &&& (7 : Int32)) < (8 : Int32) := by
  have h : (k &&& (7 : Int32)).toInt = k.toInt % 8 := c_mask k 7 3 (by decide) (by decide)
  simp only [Int32.lt_iff_toInt_lt, show (0 : Int32).toInt = 0 from rfl, show (8 : Int32).toInt = 8 from rfl] at *
  omega
set_option maxHeartbeats 40000000 in
theorem own_law (x : Int32) : f1 x = f2 x := by
  have h1 := own_or32 x
  have h2 := c_isub (x ||| (32 : Int32)) (97 : Int32)
  rw [show (97 : Int32).toInt = 97 from rfl] at h2
  have := ((x ||| (32 : Int32)) - (97 : Int32)).toInt_lt; have := ((x ||| (32 : Int32)) - (97 : Int32)).le_toInt; have := x.toInt_lt; have := x.le_toInt
  have := (x ||| (32 : Int32)).toInt_lt; have := (x ||| (32 : Int32)).le_toInt
  unfold f1 f2
  generalize ((x ||| (32 : Int32)) - (97 : Int32)) = d at *
  generalize (x ||| (32 : Int32)) = o at *
  repeat' split
  all_goals first | rfl | (exfalso; simp only [Int32.lt_iff_toInt_lt, ← Int32.toInt_inj, show (0 : Int32).toInt = 0 from rfl, show (26 : Int32).toInt = 26 from rfl, show (65 : Int32).toInt = 65 from rfl, show (90 : Int32).toInt = 90 from rfl, show (97 : Int32).toInt = 97 from rfl, show (122 : Int32).toInt = 122 from rfl] at *; omega)

theorem pn_0 : plainName "com/example/tripleweave/tripleweave/rdf/TextParserIsAsciiLetterPinLaw" = true := by first | (simp [plainName, overriddenIn]; done) | decide +kernel
theorem pd0_0 : parseMethodDescriptor "(I)Z" = some ⟨[.int], some .boolean⟩ := by decide +kernel
theorem ef_0 (m : MethodId) (x0 : Int32) (x1 : Int32) : entryFrame m #[(.int x0), (.int x1)] maxLocals = mkF m 0 #[vi x0, vi x1, .unset, .unset, .unset, .unset] [] := by first | (simp [entryFrame, mkF, argsToLocals, Value.category, maxLocals]; done) | rfl
def Q0 (Z : State) (p1 : Int32) (p2 : Int32) (h0 : Heap) (n0 : Nat) (v : Option Value) (h : Heap) (L : List Loc) : Prop := v = some (.int (1 : Int32)) ∧ Fr n0 L
set_option maxRecDepth 65536 in
set_option maxHeartbeats 40000000 in
theorem rm0 (l : Launch) (Z : State) (a0 : Array Value) (hw : ∀ d ∈ tables_1, d.before a0 Z = true) (ws : List Jvm.Cond) (p1 : Int32) (p2 : Int32) (h0 : Heap) (n0 : Nat) (Z0 : n0 ≤ h0.size) :
    MetFree l x (head1 (Jvm.Cond.code x code maxLocals ret :: ws) room_1) (fun a U => a = #[(.int p1), (.int p2)] ∧ Z.Warmed39 U.vm ∧ U.heap = h0) (fun _ _ _ _ _ => True) (fun _ U o U' => ∃ v L, o = .returned v ∧ Q0 Z p1 p2 h0 n0 v U'.heap L ∧ FrameEnd U o U' L room_1.cells room_1.slots) := by
  refine MetFree.of_bodySF (plainFor_of_name pn_0) hisR ?_
  intro p e s m args below meth c s₁ Bd hml0 hP hK
  obtain ⟨rfl, hZ, hh⟩ := hP
  have hx := Bd.exec
  have hby := Bd.bytes
  have hml : c.maxLocals = 6 := hml0
  have hown : s.vm.findClass "com/example/tripleweave/tripleweave/rdf/TextParserIsAsciiLetterPinLaw" = some m.cls := findClass_of_methodNamed Bd.named
  have hnm := (name_of_methodNamed Bd.named Bd.method).1
  have X0 : Stand p l e room_1 s m #[(.int p1), (.int p2)] below meth c s₁ [] 0 0 := Stand.of_body Bd
  have e0 : s₁.heap = h0 := by rw [← hh, Bd.state]; rfl
  have N0 := Fr.nil n0
  obtain ⟨F0, hF0⟩ : ∃ F : JFrame, F = entryFrame m #[(.int p1), (.int p2)] maxLocals := ⟨_, rfl⟩
  have pre0 : ∀ t, Steps p.tables e below (s₁.setTop F0) t → Steps p.tables e below (s₁.setTop (entryFrame m #[(.int p1), (.int p2)] maxLocals)) t := fun t k => hF0 ▸ k
  have go0 : Go p e below s₁ F0 s₁ (mkF m 0 #[vi p1, vi p2, .unset, .unset, .unset, .unset] []) := fun t k => castTop (hF0.trans (ef_0 m p1 p2)) k
  have go1 : Go p e below s₁ F0 s₁ (mkF m 2 #[vi p1, vi p2, .unset, .unset, .unset, .unset] [(.int (8 : Int32))]) := by
    intro t kt
    refine go0 t ?_
    refine o_bipush X0 hx (hb hby at_0) (v := 8) rfl ?_
    exact kt
  obtain ⟨T2, h2, k2, X2, e2, E2, A2, st2⟩ := newP X0 hx hZ (own_w hw 0 rfl) e0 (g := (mkF m 2 #[vi p1, vi p2, .unset, .unset, .unset, .unset] [(.int (8 : Int32))])) rfl (hb hby at_2) rfl (by decide) (cap := 8) (by decide) (by decide) (by decide) (by decide)
  obtain ⟨b2, gz2⟩ : ∃ z, z = h0.size := ⟨_, rfl⟩
  rw [← gz2] at A2 st2
  have g_b2 : n0 ≤ b2 := Nat.le_trans Z0 (Nat.le_of_eq gz2.symm)
  have Z3 : n0 ≤ h2.size := Nat.le_trans Z0 E2.1
  have V2 : Arv Z h2 b2 k2 .int (8 : Int32) (own_zi 8) (.int (0 : Int32)) := (Arv.new A2 (by decide)).pad (pad_rep [] (.int (0 : Int32)) 8)
  have go4 : Go p e below s₁ F0 T2 (mkF m 4 #[vi p1, vi p2, .unset, .unset, .unset, .unset] [(.ref b2)]) := fun t k => go1 t (st2 t k)
  have go5 : Go p e below s₁ F0 T2 (mkF m 8 #[vi p1, vi p2, .unset, .unset, .unset, .unset] [(.int (64 : Int32)), (.int (0 : Int32)), (.ref b2), (.ref b2)]) := by
    intro t kt
    refine go4 t ?_
    refine o_dup X2 hx (hb hby at_4) rfl ?_
    refine o_iconst X2 hx (hb hby at_5) (v := 0) rfl ?_
    refine o_bipush X2 hx (hb hby at_6) (v := 64) rfl ?_
    exact kt
  obtain ⟨cl6, Ar6, q6, Sz6, Nn6, Hs6, G6⟩ := V2
  have hin6 : ¬ ((0 : Int32) < 0 ∨ cl6.slots.size ≤ ((0 : Int32)).toNatClampNeg) := inb_of Sz6 ⟨by decide, by decide⟩
  obtain ⟨T6, h6, X6, e6, W6, st6⟩ := stI X2 hx hZ e2 Ar6 (j := (0 : Int32)) hin6 (g := (mkF m 8 #[vi p1, vi p2, .unset, .unset, .unset, .unset] [(.int (64 : Int32)), (.int (0 : Int32)), (.ref b2), (.ref b2)])) rfl rfl (hb hby at_8)
  have V6 : Arv Z h6 b2 k2 .int (8 : Int32) [(.int (64 : Int32)), (.int (0 : Int32)), (.int (0 : Int32)), (.int (0 : Int32)), (.int (0 : Int32)), (.int (0 : Int32)), (.int (0 : Int32)), (.int (0 : Int32))] (.int (0 : Int32)) := Arv.set Ar6 q6 Sz6 Nn6 Hs6 G6 rfl W6 0 rfl (Nat.le_of_ble_eq_true rfl)
  have Z7 : n0 ≤ h6.size := Nat.le_trans Z3 (Keep.of_wr W6).1
  have N6 := Fr.snoc X6 N0 g_b2
  have go8 : Go p e below s₁ F0 T6 (mkF m 9 #[vi p1, vi p2, .unset, .unset, .unset, .unset] [(.ref b2)]) := fun t k => go5 t (st6 t k)
  have go9 : Go p e below s₁ F0 T6 (mkF m 13 #[vi p1, vi p2, .unset, .unset, .unset, .unset] [(.int (65 : Int32)), (.int (1 : Int32)), (.ref b2), (.ref b2)]) := by
    intro t kt
    refine go8 t ?_
    refine o_dup X6 hx (hb hby at_9) rfl ?_
    refine o_iconst X6 hx (hb hby at_10) (v := 1) rfl ?_
    refine o_bipush X6 hx (hb hby at_11) (v := 65) rfl ?_
    exact kt
  obtain ⟨cl10, Ar10, q10, Sz10, Nn10, Hs10, G10⟩ := V6
  have hin10 : ¬ ((1 : Int32) < 0 ∨ cl10.slots.size ≤ ((1 : Int32)).toNatClampNeg) := inb_of Sz10 ⟨by decide, by decide⟩
  obtain ⟨T10, h10, X10, e10, W10, st10⟩ := stI X6 hx hZ e6 Ar10 (j := (1 : Int32)) hin10 (g := (mkF m 13 #[vi p1, vi p2, .unset, .unset, .unset, .unset] [(.int (65 : Int32)), (.int (1 : Int32)), (.ref b2), (.ref b2)])) rfl rfl (hb hby at_13)
  have V10 : Arv Z h10 b2 k2 .int (8 : Int32) [(.int (64 : Int32)), (.int (65 : Int32)), (.int (0 : Int32)), (.int (0 : Int32)), (.int (0 : Int32)), (.int (0 : Int32)), (.int (0 : Int32)), (.int (0 : Int32))] (.int (0 : Int32)) := Arv.set Ar10 q10 Sz10 Nn10 Hs10 G10 rfl W10 1 rfl (Nat.le_of_ble_eq_true rfl)
  have Z11 : n0 ≤ h10.size := Nat.le_trans Z7 (Keep.of_wr W10).1
  have N10 := Fr.snoc X10 N6 g_b2
  have go12 : Go p e below s₁ F0 T10 (mkF m 14 #[vi p1, vi p2, .unset, .unset, .unset, .unset] [(.ref b2)]) := fun t k => go9 t (st10 t k)
  have go13 : Go p e below s₁ F0 T10 (mkF m 18 #[vi p1, vi p2, .unset, .unset, .unset, .unset] [(.int (90 : Int32)), (.int (2 : Int32)), (.ref b2), (.ref b2)]) := by
    intro t kt
    refine go12 t ?_
    refine o_dup X10 hx (hb hby at_14) rfl ?_
    refine o_iconst X10 hx (hb hby at_15) (v := 2) rfl ?_
    refine o_bipush X10 hx (hb hby at_16) (v := 90) rfl ?_
    exact kt
  obtain ⟨cl14, Ar14, q14, Sz14, Nn14, Hs14, G14⟩ := V10
  have hin14 : ¬ ((2 : Int32) < 0 ∨ cl14.slots.size ≤ ((2 : Int32)).toNatClampNeg) := inb_of Sz14 ⟨by decide, by decide⟩
  obtain ⟨T14, h14, X14, e14, W14, st14⟩ := stI X10 hx hZ e10 Ar14 (j := (2 : Int32)) hin14 (g := (mkF m 18 #[vi p1, vi p2, .unset, .unset, .unset, .unset] [(.int (90 : Int32)), (.int (2 : Int32)), (.ref b2), (.ref b2)])) rfl rfl (hb hby at_18)
  have V14 : Arv Z h14 b2 k2 .int (8 : Int32) [(.int (64 : Int32)), (.int (65 : Int32)), (.int (90 : Int32)), (.int (0 : Int32)), (.int (0 : Int32)), (.int (0 : Int32)), (.int (0 : Int32)), (.int (0 : Int32))] (.int (0 : Int32)) := Arv.set Ar14 q14 Sz14 Nn14 Hs14 G14 rfl W14 2 rfl (Nat.le_of_ble_eq_true rfl)
  have Z15 : n0 ≤ h14.size := Nat.le_trans Z11 (Keep.of_wr W14).1
  have N14 := Fr.snoc X14 N10 g_b2
  have go16 : Go p e below s₁ F0 T14 (mkF m 19 #[vi p1, vi p2, .unset, .unset, .unset, .unset] [(.ref b2)]) := fun t k => go13 t (st14 t k)
  have go17 : Go p e below s₁ F0 T14 (mkF m 23 #[vi p1, vi p2, .unset, .unset, .unset, .unset] [(.int (91 : Int32)), (.int (3 : Int32)), (.ref b2), (.ref b2)]) := by
    intro t kt
    refine go16 t ?_
    refine o_dup X14 hx (hb hby at_19) rfl ?_
    refine o_iconst X14 hx (hb hby at_20) (v := 3) rfl ?_
    refine o_bipush X14 hx (hb hby at_21) (v := 91) rfl ?_
    exact kt
  obtain ⟨cl18, Ar18, q18, Sz18, Nn18, Hs18, G18⟩ := V14
  have hin18 : ¬ ((3 : Int32) < 0 ∨ cl18.slots.size ≤ ((3 : Int32)).toNatClampNeg) := inb_of Sz18 ⟨by decide, by decide⟩
  obtain ⟨T18, h18, X18, e18, W18, st18⟩ := stI X14 hx hZ e14 Ar18 (j := (3 : Int32)) hin18 (g := (mkF m 23 #[vi p1, vi p2, .unset, .unset, .unset, .unset] [(.int (91 : Int32)), (.int (3 : Int32)), (.ref b2), (.ref b2)])) rfl rfl (hb hby at_23)
  have V18 : Arv Z h18 b2 k2 .int (8 : Int32) [(.int (64 : Int32)), (.int (65 : Int32)), (.int (90 : Int32)), (.int (91 : Int32)), (.int (0 : Int32)), (.int (0 : Int32)), (.int (0 : Int32)), (.int (0 : Int32))] (.int (0 : Int32)) := Arv.set Ar18 q18 Sz18 Nn18 Hs18 G18 rfl W18 3 rfl (Nat.le_of_ble_eq_true rfl)
  have Z19 : n0 ≤ h18.size := Nat.le_trans Z15 (Keep.of_wr W18).1
  have N18 := Fr.snoc X18 N14 g_b2
  have go20 : Go p e below s₁ F0 T18 (mkF m 24 #[vi p1, vi p2, .unset, .unset, .unset, .unset] [(.ref b2)]) := fun t k => go17 t (st18 t k)
  have go21 : Go p e below s₁ F0 T18 (mkF m 28 #[vi p1, vi p2, .unset, .unset, .unset, .unset] [(.int (96 : Int32)), (.int (4 : Int32)), (.ref b2), (.ref b2)]) := by
    intro t kt
    refine go20 t ?_
    refine o_dup X18 hx (hb hby at_24) rfl ?_
    refine o_iconst X18 hx (hb hby at_25) (v := 4) rfl ?_
    refine o_bipush X18 hx (hb hby at_26) (v := 96) rfl ?_
    exact kt
  obtain ⟨cl22, Ar22, q22, Sz22, Nn22, Hs22, G22⟩ := V18
  have hin22 : ¬ ((4 : Int32) < 0 ∨ cl22.slots.size ≤ ((4 : Int32)).toNatClampNeg) := inb_of Sz22 ⟨by decide, by decide⟩
  obtain ⟨T22, h22, X22, e22, W22, st22⟩ := stI X18 hx hZ e18 Ar22 (j := (4 : Int32)) hin22 (g := (mkF m 28 #[vi p1, vi p2, .unset, .unset, .unset, .unset] [(.int (96 : Int32)), (.int (4 : Int32)), (.ref b2), (.ref b2)])) rfl rfl (hb hby at_28)
  have V22 : Arv Z h22 b2 k2 .int (8 : Int32) [(.int (64 : Int32)), (.int (65 : Int32)), (.int (90 : Int32)), (.int (91 : Int32)), (.int (96 : Int32)), (.int (0 : Int32)), (.int (0 : Int32)), (.int (0 : Int32))] (.int (0 : Int32)) := Arv.set Ar22 q22 Sz22 Nn22 Hs22 G22 rfl W22 4 rfl (Nat.le_of_ble_eq_true rfl)
  have Z23 : n0 ≤ h22.size := Nat.le_trans Z19 (Keep.of_wr W22).1
  have N22 := Fr.snoc X22 N18 g_b2
  have go24 : Go p e below s₁ F0 T22 (mkF m 29 #[vi p1, vi p2, .unset, .unset, .unset, .unset] [(.ref b2)]) := fun t k => go21 t (st22 t k)
  have go25 : Go p e below s₁ F0 T22 (mkF m 33 #[vi p1, vi p2, .unset, .unset, .unset, .unset] [(.int (97 : Int32)), (.int (5 : Int32)), (.ref b2), (.ref b2)]) := by
    intro t kt
    refine go24 t ?_
    refine o_dup X22 hx (hb hby at_29) rfl ?_
    refine o_iconst X22 hx (hb hby at_30) (v := 5) rfl ?_
    refine o_bipush X22 hx (hb hby at_31) (v := 97) rfl ?_
    exact kt
  obtain ⟨cl26, Ar26, q26, Sz26, Nn26, Hs26, G26⟩ := V22
  have hin26 : ¬ ((5 : Int32) < 0 ∨ cl26.slots.size ≤ ((5 : Int32)).toNatClampNeg) := inb_of Sz26 ⟨by decide, by decide⟩
  obtain ⟨T26, h26, X26, e26, W26, st26⟩ := stI X22 hx hZ e22 Ar26 (j := (5 : Int32)) hin26 (g := (mkF m 33 #[vi p1, vi p2, .unset, .unset, .unset, .unset] [(.int (97 : Int32)), (.int (5 : Int32)), (.ref b2), (.ref b2)])) rfl rfl (hb hby at_33)
  have V26 : Arv Z h26 b2 k2 .int (8 : Int32) [(.int (64 : Int32)), (.int (65 : Int32)), (.int (90 : Int32)), (.int (91 : Int32)), (.int (96 : Int32)), (.int (97 : Int32)), (.int (0 : Int32)), (.int (0 : Int32))] (.int (0 : Int32)) := Arv.set Ar26 q26 Sz26 Nn26 Hs26 G26 rfl W26 5 rfl (Nat.le_of_ble_eq_true rfl)
  have Z27 : n0 ≤ h26.size := Nat.le_trans Z23 (Keep.of_wr W26).1
  have N26 := Fr.snoc X26 N22 g_b2
  have go28 : Go p e below s₁ F0 T26 (mkF m 34 #[vi p1, vi p2, .unset, .unset, .unset, .unset] [(.ref b2)]) := fun t k => go25 t (st26 t k)
  have go29 : Go p e below s₁ F0 T26 (mkF m 39 #[vi p1, vi p2, .unset, .unset, .unset, .unset] [(.int (122 : Int32)), (.int (6 : Int32)), (.ref b2), (.ref b2)]) := by
    intro t kt
    refine go28 t ?_
    refine o_dup X26 hx (hb hby at_34) rfl ?_
    refine o_bipush X26 hx (hb hby at_35) (v := 6) rfl ?_
    refine o_bipush X26 hx (hb hby at_37) (v := 122) rfl ?_
    exact kt
  obtain ⟨cl30, Ar30, q30, Sz30, Nn30, Hs30, G30⟩ := V26
  have hin30 : ¬ ((6 : Int32) < 0 ∨ cl30.slots.size ≤ ((6 : Int32)).toNatClampNeg) := inb_of Sz30 ⟨by decide, by decide⟩
  obtain ⟨T30, h30, X30, e30, W30, st30⟩ := stI X26 hx hZ e26 Ar30 (j := (6 : Int32)) hin30 (g := (mkF m 39 #[vi p1, vi p2, .unset, .unset, .unset, .unset] [(.int (122 : Int32)), (.int (6 : Int32)), (.ref b2), (.ref b2)])) rfl rfl (hb hby at_39)
  have V30 : Arv Z h30 b2 k2 .int (8 : Int32) [(.int (64 : Int32)), (.int (65 : Int32)), (.int (90 : Int32)), (.int (91 : Int32)), (.int (96 : Int32)), (.int (97 : Int32)), (.int (122 : Int32)), (.int (0 : Int32))] (.int (0 : Int32)) := Arv.set Ar30 q30 Sz30 Nn30 Hs30 G30 rfl W30 6 rfl (Nat.le_of_ble_eq_true rfl)
  have Z31 : n0 ≤ h30.size := Nat.le_trans Z27 (Keep.of_wr W30).1
  have N30 := Fr.snoc X30 N26 g_b2
  have go32 : Go p e below s₁ F0 T30 (mkF m 40 #[vi p1, vi p2, .unset, .unset, .unset, .unset] [(.ref b2)]) := fun t k => go29 t (st30 t k)
  have go33 : Go p e below s₁ F0 T30 (mkF m 45 #[vi p1, vi p2, .unset, .unset, .unset, .unset] [(.int (123 : Int32)), (.int (7 : Int32)), (.ref b2), (.ref b2)]) := by
    intro t kt
    refine go32 t ?_
    refine o_dup X30 hx (hb hby at_40) rfl ?_
    refine o_bipush X30 hx (hb hby at_41) (v := 7) rfl ?_
    refine o_bipush X30 hx (hb hby at_43) (v := 123) rfl ?_
    exact kt
  obtain ⟨cl34, Ar34, q34, Sz34, Nn34, Hs34, G34⟩ := V30
  have hin34 : ¬ ((7 : Int32) < 0 ∨ cl34.slots.size ≤ ((7 : Int32)).toNatClampNeg) := inb_of Sz34 ⟨by decide, by decide⟩
  obtain ⟨T34, h34, X34, e34, W34, st34⟩ := stI X30 hx hZ e30 Ar34 (j := (7 : Int32)) hin34 (g := (mkF m 45 #[vi p1, vi p2, .unset, .unset, .unset, .unset] [(.int (123 : Int32)), (.int (7 : Int32)), (.ref b2), (.ref b2)])) rfl rfl (hb hby at_45)
  have V34 : Arv Z h34 b2 k2 .int (8 : Int32) [(.int (64 : Int32)), (.int (65 : Int32)), (.int (90 : Int32)), (.int (91 : Int32)), (.int (96 : Int32)), (.int (97 : Int32)), (.int (122 : Int32)), (.int (123 : Int32))] (.int (0 : Int32)) := Arv.set Ar34 q34 Sz34 Nn34 Hs34 G34 rfl W34 7 rfl (Nat.le_of_ble_eq_true rfl)
  have Z35 : n0 ≤ h34.size := Nat.le_trans Z31 (Keep.of_wr W34).1
  have N34 := Fr.snoc X34 N30 g_b2
  have go36 : Go p e below s₁ F0 T34 (mkF m 46 #[vi p1, vi p2, .unset, .unset, .unset, .unset] [(.ref b2)]) := fun t k => go33 t (st34 t k)
  have go37 : Go p e below s₁ F0 T34 (mkF m 52 #[vi p1, vi p2, vr b2, .unset, .unset, .unset] [(.int (p2 &&& (7 : Int32))), (.ref b2)]) := by
    intro t kt
    refine go36 t ?_
    refine o_astoreN X34 hx (hb hby at_46) rfl (L' := #[vi p1, vi p2, vr b2, .unset, .unset, .unset]) rfl ?_
    refine o_aloadN X34 hx (hb hby at_47) rfl rfl ?_
    refine o_iloadN X34 hx (hb hby at_48) rfl ?_
    refine o_bipush X34 hx (hb hby at_49) (v := 7) rfl ?_
    refine o_iand X34 hx (hb hby at_51) ?_
    exact kt
  obtain ⟨cl38, Ar38, -, Sz38, Nn38, Hs38, -⟩ := V34
  have hin38 : ¬ ((p2 &&& (7 : Int32)) < 0 ∨ cl38.slots.size ≤ ((p2 &&& (7 : Int32))).toNatClampNeg) := inb_of Sz38 (own_in _)
  have hat38 : cl38.slots[((p2 &&& (7 : Int32))).toNatClampNeg]? = some (.int (own_edge (p2 &&& (7 : Int32)).toNatClampNeg)) := Hs38.at hin38 (own_at _)
  have go39 : Go p e below s₁ F0 T34 (mkF m 55 #[vi p1, vi p2, vr b2, vi (own_edge (p2 &&& (7 : Int32)).toNatClampNeg), .unset, .unset] [(.int p1)]) := by
    intro t kt
    refine go37 t ?_
    refine o_iaload X34 hx hZ e34 Ar38 hin38 hat38 (hb hby at_52) ?_
    refine o_istoreN X34 hx (hb hby at_53) (L' := #[vi p1, vi p2, vr b2, vi (own_edge (p2 &&& (7 : Int32)).toNatClampNeg), .unset, .unset]) rfl ?_
    refine o_iloadN X34 hx (hb hby at_54) rfl ?_
    exact kt
  obtain ⟨_, _, ⟨T40, L40, k40, n40⟩, -, X40, ⟨Lc40, hQ40, l40, y40, z40⟩, st40⟩ := Jvm.LawKit.callS X34 hx (y := y_0) hown (mvT hZ (own_w hw 1 rfl)) (mvT hZ (own_w hw 2 rfl)) (mvT hZ (own_w hw 3 rfl)) (mvT hZ (own_w hw 4 rfl)) (by decide) (backOf (W := 0) (rm1 l Z a0 hw [] p1 h34 n0 Z35 ) hZ (own_w hw 4 rfl) (own_w hw 3 rfl) (by decide) (by decide)) (g := (mkF m 55 #[vi p1, vi p2, vr b2, vi (own_edge (p2 &&& (7 : Int32)).toNatClampNeg), .unset, .unset] [(.int p1)])) rfl (by rw [hml]; rfl) (argsL := [(.int p1)]) (rest := []) (lenOf pd0_0 rfl) rfl (by show 2 * 0 + _ ≤ _; exact Nat.le_of_eq rfl) (hb hby at_55) (fun _ _ => ⟨rfl, e34, (by decide : 1 + 0 ≤ _), (by decide : 8 + 0 ≤ _)⟩)
  dsimp only [Pt.U, Pt.locs, Pt.cells, Pt.slots] at X40 l40 y40 z40 st40 hQ40
  subst l40 y40 z40
  obtain ⟨rfl, Nq40, eh40⟩ := hQ40
  have N40 := Fr.app N34 Nq40
  have go41 : Go p e below s₁ F0 T40 (mkF m 58 #[vi p1, vi p2, vr b2, vi (own_edge (p2 &&& (7 : Int32)).toNatClampNeg), .unset, .unset] [(.int (f1 p1))]) := fun t k => go39 t (st40 t k)
  have go42 : Go p e below s₁ F0 T40 (mkF m 59 #[vi p1, vi p2, vr b2, vi (own_edge (p2 &&& (7 : Int32)).toNatClampNeg), .unset, .unset] [(.int p1), (.int (f1 p1))]) := by
    intro t kt
    refine go41 t ?_
    refine o_iloadN X40 hx (hb hby at_58) rfl ?_
    exact kt
  obtain ⟨_, _, ⟨T43, L43, k43, n43⟩, -, X43, ⟨Lc43, hQ43, l43, y43, z43⟩, st43⟩ := Jvm.LawKit.callS X40 hx (y := y_1) hown (mvT hZ (own_w hw 5 rfl)) (mvT hZ (own_w hw 6 rfl)) (mvT hZ (own_w hw 7 rfl)) (mvT hZ (own_w hw 8 rfl)) (by decide) (backOf (W := 1) (rm2 l Z a0 hw [] p1 h34 n0 Z35 ) hZ (own_w hw 8 rfl) (own_w hw 7 rfl) (by decide) (by decide)) (g := (mkF m 59 #[vi p1, vi p2, vr b2, vi (own_edge (p2 &&& (7 : Int32)).toNatClampNeg), .unset, .unset] [(.int p1), (.int (f1 p1))])) rfl (by rw [hml]; rfl) (argsL := [(.int p1)]) (rest := [(.int (f1 p1))]) (lenOf pd0_0 rfl) rfl (by show 2 * 0 + _ ≤ _; exact Nat.le_of_eq rfl) (hb hby at_59) (fun _ _ => ⟨rfl, eh40, (by decide : 1 + 0 ≤ _), (by decide : 8 + 0 ≤ _)⟩)
  dsimp only [Pt.U, Pt.locs, Pt.cells, Pt.slots] at X43 l43 y43 z43 st43 hQ43
  subst l43 y43 z43
  obtain ⟨rfl, Nq43, eh43⟩ := hQ43
  have N43 := Fr.app N40 Nq43
  have go44 : Go p e below s₁ F0 T43 (mkF m 62 #[vi p1, vi p2, vr b2, vi (own_edge (p2 &&& (7 : Int32)).toNatClampNeg), .unset, .unset] [(.int (f2 p1)), (.int (f1 p1))]) := fun t k => go42 t (st43 t k)
  have hd45 : (f1 p1) = (f2 p1) := own_law _
  have go46 : Go p e below s₁ F0 T43 (mkF m 73 #[vi p1, vi p2, vr b2, vi (own_edge (p2 &&& (7 : Int32)).toNatClampNeg), vi (1 : Int32), .unset] [(.int (own_edge (p2 &&& (7 : Int32)).toNatClampNeg))]) := by
    intro t kt
    refine go44 t ?_
    refine o_icmpNo X43 hx (hb hby at_62) (teq hd45).2 ?_
    refine o_iconst X43 hx (hb hby at_65) (v := 1) rfl ?_
    refine o_goto X43 hx (hb hby at_66) (pc' := 70) rfl (by decide) ?_
    refine o_istore X43 hx (hb hby at_70) (L' := #[vi p1, vi p2, vr b2, vi (own_edge (p2 &&& (7 : Int32)).toNatClampNeg), vi (1 : Int32), .unset]) rfl ?_
    refine o_iloadN X43 hx (hb hby at_72) rfl ?_
    exact kt
  obtain ⟨_, _, ⟨T47, L47, k47, n47⟩, -, X47, ⟨Lc47, hQ47, l47, y47, z47⟩, st47⟩ := Jvm.LawKit.callS X43 hx (y := y_0) hown (mvT hZ (own_w hw 1 rfl)) (mvT hZ (own_w hw 2 rfl)) (mvT hZ (own_w hw 3 rfl)) (mvT hZ (own_w hw 4 rfl)) (by decide) (backOf (W := 0) (rm1 l Z a0 hw [] (own_edge (p2 &&& (7 : Int32)).toNatClampNeg) h34 n0 Z35 ) hZ (own_w hw 4 rfl) (own_w hw 3 rfl) (by decide) (by decide)) (g := (mkF m 73 #[vi p1, vi p2, vr b2, vi (own_edge (p2 &&& (7 : Int32)).toNatClampNeg), vi (1 : Int32), .unset] [(.int (own_edge (p2 &&& (7 : Int32)).toNatClampNeg))])) rfl (by rw [hml]; rfl) (argsL := [(.int (own_edge (p2 &&& (7 : Int32)).toNatClampNeg))]) (rest := []) (lenOf pd0_0 rfl) rfl (by show 2 * 0 + _ ≤ _; exact Nat.le_of_eq rfl) (hb hby at_73) (fun _ _ => ⟨rfl, eh43, (by decide : 1 + 0 ≤ _), (by decide : 8 + 0 ≤ _)⟩)
  dsimp only [Pt.U, Pt.locs, Pt.cells, Pt.slots] at X47 l47 y47 z47 st47 hQ47
  subst l47 y47 z47
  obtain ⟨rfl, Nq47, eh47⟩ := hQ47
  have N47 := Fr.app N43 Nq47
  have go48 : Go p e below s₁ F0 T47 (mkF m 76 #[vi p1, vi p2, vr b2, vi (own_edge (p2 &&& (7 : Int32)).toNatClampNeg), vi (1 : Int32), .unset] [(.int (f1 (own_edge (p2 &&& (7 : Int32)).toNatClampNeg)))]) := fun t k => go46 t (st47 t k)
  have go49 : Go p e below s₁ F0 T47 (mkF m 77 #[vi p1, vi p2, vr b2, vi (own_edge (p2 &&& (7 : Int32)).toNatClampNeg), vi (1 : Int32), .unset] [(.int (own_edge (p2 &&& (7 : Int32)).toNatClampNeg)), (.int (f1 (own_edge (p2 &&& (7 : Int32)).toNatClampNeg)))]) := by
    intro t kt
    refine go48 t ?_
    refine o_iloadN X47 hx (hb hby at_76) rfl ?_
    exact kt
  obtain ⟨_, _, ⟨T50, L50, k50, n50⟩, -, X50, ⟨Lc50, hQ50, l50, y50, z50⟩, st50⟩ := Jvm.LawKit.callS X47 hx (y := y_1) hown (mvT hZ (own_w hw 5 rfl)) (mvT hZ (own_w hw 6 rfl)) (mvT hZ (own_w hw 7 rfl)) (mvT hZ (own_w hw 8 rfl)) (by decide) (backOf (W := 1) (rm2 l Z a0 hw [] (own_edge (p2 &&& (7 : Int32)).toNatClampNeg) h34 n0 Z35 ) hZ (own_w hw 8 rfl) (own_w hw 7 rfl) (by decide) (by decide)) (g := (mkF m 77 #[vi p1, vi p2, vr b2, vi (own_edge (p2 &&& (7 : Int32)).toNatClampNeg), vi (1 : Int32), .unset] [(.int (own_edge (p2 &&& (7 : Int32)).toNatClampNeg)), (.int (f1 (own_edge (p2 &&& (7 : Int32)).toNatClampNeg)))])) rfl (by rw [hml]; rfl) (argsL := [(.int (own_edge (p2 &&& (7 : Int32)).toNatClampNeg))]) (rest := [(.int (f1 (own_edge (p2 &&& (7 : Int32)).toNatClampNeg)))]) (lenOf pd0_0 rfl) rfl (by show 2 * 0 + _ ≤ _; exact Nat.le_of_eq rfl) (hb hby at_77) (fun _ _ => ⟨rfl, eh47, (by decide : 1 + 0 ≤ _), (by decide : 8 + 0 ≤ _)⟩)
  dsimp only [Pt.U, Pt.locs, Pt.cells, Pt.slots] at X50 l50 y50 z50 st50 hQ50
  subst l50 y50 z50
  obtain ⟨rfl, Nq50, eh50⟩ := hQ50
  have N50 := Fr.app N47 Nq50
  have go51 : Go p e below s₁ F0 T50 (mkF m 80 #[vi p1, vi p2, vr b2, vi (own_edge (p2 &&& (7 : Int32)).toNatClampNeg), vi (1 : Int32), .unset] [(.int (f2 (own_edge (p2 &&& (7 : Int32)).toNatClampNeg))), (.int (f1 (own_edge (p2 &&& (7 : Int32)).toNatClampNeg)))]) := fun t k => go49 t (st50 t k)
  have hd52 : (f1 (own_edge (p2 &&& (7 : Int32)).toNatClampNeg)) = (f2 (own_edge (p2 &&& (7 : Int32)).toNatClampNeg)) := own_law _
  have go53 : Go p e below s₁ F0 T50 (mkF m 105 #[vi p1, vi p2, vr b2, vi (own_edge (p2 &&& (7 : Int32)).toNatClampNeg), vi (1 : Int32), vi (1 : Int32)] [(.int (1 : Int32))]) := by
    intro t kt
    refine go51 t ?_
    refine o_icmpNo X50 hx (hb hby at_80) (teq hd52).2 ?_
    refine o_iconst X50 hx (hb hby at_83) (v := 1) rfl ?_
    refine o_goto X50 hx (hb hby at_84) (pc' := 88) rfl (by decide) ?_
    refine o_istore X50 hx (hb hby at_88) (L' := #[vi p1, vi p2, vr b2, vi (own_edge (p2 &&& (7 : Int32)).toNatClampNeg), vi (1 : Int32), vi (1 : Int32)]) rfl ?_
    refine o_iload X50 hx (hb hby at_90) rfl ?_
    refine o_ifNo X50 hx (hb hby at_92) ((if0 _ _).trans (feq (by decide : ¬ ((1 : Int32) = (0 : Int32)))).1) ?_
    refine o_iload X50 hx (hb hby at_95) rfl ?_
    refine o_ifNo X50 hx (hb hby at_97) ((if0 _ _).trans (feq (by decide : ¬ ((1 : Int32) = (0 : Int32)))).1) ?_
    refine o_iconst X50 hx (hb hby at_100) (v := 1) rfl ?_
    refine o_goto X50 hx (hb hby at_101) (pc' := 105) rfl (by decide) ?_
    exact kt
  obtain ⟨fs, hr, hrun, hended, hW, hsame⟩ := X50.leave (v := some (.int (1 : Int32))) (fun h => by rw [Bd.returns] at h; cases h)
  refine ⟨_, _, pre0 _ (go53 _ ?_), hrun, hended, _, _, rfl, ?_, ⟨_, rfl⟩, hW, hsame.mono (by decide) (by decide)⟩
  · skip
    exact retN X50 hx (t := .boolean) Bd.returns (by simp) (hb hby at_105) hr
  · show Q0 Z p1 p2 h0 n0 _ T50.heap _
    rw [eh50]
    exact ⟨rfl, N50⟩

set_option maxRecDepth 65536 in
set_option maxHeartbeats 40000000 in
theorem comes_1 {Post : Tables → Env → Array Value → State → Outcome → State → Prop} (hpost : ∀ tb e args s v u, (limb_1_1.after args s (.returned v) u = true ∧ limb_1_2.after args s (.returned v) u = true ∧ True) → FrameEnd s (.returned v) u (Jvm.fieldLocs frame_1_writes args s ++ Jvm.arrayLocs frame_1_arrays args s ++ Jvm.staticLocs frame_1_statics s) 16 128 → Post tb e args s (.returned v) u) :
    ArmFor flags0 classFile x code maxLocals ret World_1 tables_1 room_1 Calls_1 rest_1 Pre_1 Post := by
  intro l hfl _ _ p e ha hc hk s m args below hf hA hF happ hP
  obtain ⟨hcalls, hrest, hpre⟩ := hP
  obtain ⟨-, -, -, hnamed, -, -, -, hat⟩ := (Spec.applies_iff hf).mp happ
  obtain ⟨hg, hn⟩ := and_e (Cond.before_iff.mp (show (Jvm.Cond.and given_1 narrow_1).before args s = true from hpre))
  obtain ⟨g1, g2⟩ := and_e hg
  obtain ⟨g3, g4⟩ := and_e g2
  obtain ⟨w0, w1, rfl⟩ : ∃ w0 w1 : Value, args = #[w0, w1] := by
    have hs : args.size = 2 := by simpa [Cond.value, given_1] using g1
    obtain ⟨L⟩ := args
    match L, hs with
    | [w0, w1], _ => exact ⟨w0, w1, rfl⟩
  have hw := fun d (hd : d ∈ tables_1) => atoms_spec (ws := Jvm.Cond.code x code maxLocals ret :: tables_1) hat d (List.mem_cons_of_mem _ hd)
  have hfit : Fit s := fun {y c} hc i hi => by
    obtain ⟨ha, rfl⟩ := Array.getElem?_eq_some_iff.mp hc
    have q := List.all_eq_true.mp ((Array.all_eq_true_iff_forall_mem.mp hF) _ (Array.getElem_mem ha)) i (List.mem_range.mpr hi)
    simpa [Array.getElem?_eq_getElem hi] using q
  obtain ⟨i0, ei0⟩ := is_v g3
  obtain rfl : w0 = (.int i0) := Option.some.inj ei0
  obtain ⟨i1, ei1⟩ := is_v g4
  obtain rfl : w1 = (.int i1) := Option.some.inj ei1
  obtain ⟨n, o, h1, h2, h3, _, L, rfl, ⟨rfl, N⟩, hq⟩ := rm0 l s _ hw tables_1 i0 i1  s.heap s.heap.size (Nat.le_refl _)  p e ha hc hk s m _ below hf ((Spec.applies_iff_loose hf).mp happ).1 ⟨rfl, State.Warmed39.refl s, rfl⟩ trivial
  refine ⟨n, _, h1, h2, h3, hpost _ _ _ _ _ _ ⟨Cond.after_iff.mpr rfl, Cond.after_iff.mpr (eq_i res_at (Term.int_eval (1)) rfl), trivial⟩ ⟨hq.1, hq.2.1, (hq.2.2.sift fun y hy => Or.inr (N y hy)).mono (by decide) (by decide)⟩⟩
theorem main_1_1 : Claimed_1_1 := comes_1 fun _ _ _ _ _ _ h hF => ⟨h.1, hF⟩
theorem main_1_2 : Claimed_1_2 := comes_1 fun _ _ _ _ _ _ h hF => ⟨h.2.1, hF⟩
end Jvm.Pilot.@@N@@
namespace Jvm.Pilot.@@N@@
open Jvm Jvm.ClassFile Sem Op Lib Jvm.Free Jvm.Stand Jvm.Pilot.@@N@@.Jvm.D
/-! MADE BY PROGRAM (witnessworld.py) out of the Statement's table words and the real class files: 9 classes; the members and pool entries that the words name. The judged class is class 1, her method 1. -/
namespace start1
open Jvm.ClassFile
def u (s : String) : CpInfo := .utf8 (stringToUtf16 s)
/-- a pool by its gaps: so many unusable entries, then the entry; so many at the end -/
def gap : Nat → List CpInfo → List CpInfo
  | 0, r => r
  | n + 1, r => .unusable :: gap n r
def poolList (es : List (Nat × CpInfo)) (last : Nat) : List CpInfo := es.foldr (fun e r => gap e.1 (e.2 :: r)) (gap last [])
def pool (es : List (Nat × CpInfo)) (last : Nat) : Array CpInfo := ⟨poolList es last⟩
def fileOf (pool : Array CpInfo) (this : Nat) (attrs : Array Attribute := #[]) (ms : Array MethodInfo := #[]) (fl : Nat := 33) (sup : Nat := 0) (ifs : Array Nat := #[]) (fds : Array FieldInfo := #[]) : ClassFile where
  minorVersion := 0
  majorVersion := 65
  constantPool := pool
  accessFlags := fl
  thisClass := this
  superClass := sup
  interfaces := ifs
  fields := fds
  methods := ms
  attributes := attrs
def plain (name : String) (sup : Option ClassId) : Class where
  name := name
  kind := .ordinary
  loader := none
  accessFlags := 33
  super := sup
  interfaces := #[]
  cf := none
  fields := #[]
  methods := #[]
  instanceTypes := #[]
  staticTypes := #[]
  resolved := #[]
  callSites := []
  init := .initialized
  statics := none
  mirror := none

def pool0 : Array CpInfo := pool [(5, u "<init>"), (0, u "()V"), (1, .class_ 10), (1, u "java/lang/Object")] 113

def k0m0 : Method := { name := "<init>", desc := "()V", sig := { parameters := [], returnType := none }, accessFlags := 1, code := none }
/-- java/lang/Object -/
def k0 : Class := { plain "java/lang/Object" none with
  accessFlags := 33
  interfaces := #[]
  cf := some (fileOf pool0 8 #[] #[{ accessFlags := 1, nameIndex := 5, descriptorIndex := 6, attributes := #[] }] 33 0 #[] #[])
  fields := #[]
  methods := #[k0m0]
  instanceTypes := #[]
  staticTypes := #[]
  resolved := Array.replicate 124 none
  statics := none }

def pool1 : Array CpInfo := pool [(2, .class_ 4), (1, u "java/lang/Object"), (0, u "<init>"), (0, u "()V"), (0, .methodref 8 9), (0, .class_ 10), (0, .nameAndType 11 12), (0, u "com/example/tripleweave/tripleweave/rdf/TextParser"), (0, u "isAsciiLetter"), (0, u "(I)Z"), (0, .methodref 14 15), (0, .class_ 16), (0, .nameAndType 17 12), (0, u "com/example/tripleweave/tripleweave/rdf/TextParserIsAsciiLetterPinLaw"), (0, u "reference"), (2, u "law"), (0, u "(II)Z")] 5

def k1m0 : Method := { name := "<init>", desc := "()V", sig := { parameters := [], returnType := none }, accessFlags := 1, code := none }
def k1c1 : Code := { maxStack := 4, maxLocals := 6, code := code, exceptionTable := #[], attributes := #[] }
def k1m1 : Method := { name := "law", desc := "(II)Z", sig := { parameters := [.int, .int], returnType := some .boolean }, accessFlags := 9, code := some k1c1 }
def k1c2 : Code := { maxStack := 2, maxLocals := 2, code := method_3_code, exceptionTable := #[], attributes := #[] }
def k1m2 : Method := { name := "reference", desc := "(I)Z", sig := { parameters := [.int], returnType := some .boolean }, accessFlags := 10, code := some k1c2 }
/-- com/example/tripleweave/tripleweave/rdf/TextParserIsAsciiLetterPinLaw -/
def k1 : Class := { plain "com/example/tripleweave/tripleweave/rdf/TextParserIsAsciiLetterPinLaw" (some 0) with
  accessFlags := 49
  interfaces := #[]
  cf := some (fileOf pool1 14 #[] #[{ accessFlags := 1, nameIndex := 5, descriptorIndex := 6, attributes := #[] }, { accessFlags := 9, nameIndex := 20, descriptorIndex := 21, attributes := #[] }, { accessFlags := 10, nameIndex := 17, descriptorIndex := 12, attributes := #[] }] 49 2 #[] #[])
  fields := #[]
  methods := #[k1m0, k1m1, k1m2]
  instanceTypes := #[]
  staticTypes := #[]
  resolved := Array.replicate 27 none
  statics := none }

def pool2 : Array CpInfo := pool [(4, .class_ 6), (1, u "java/lang/Object"), (6, .class_ 15), (1, u "com/example/tripleweave/tripleweave/rdf/TextParser"), (0, u "labelled"), (0, u "Ljava/util/Map;"), (5, u "in"), (0, u "Lcom/example/tripleweave/tripleweave/rdf/CharInput;"), (2, u "source"), (0, u "Ljava/lang/String;"), (2, u "blankNodes"), (0, u "Lcom/example/tripleweave/tripleweave/rdf/BlankNodes;"), (2, u "sink"), (0, u "Lcom/example/tripleweave/tripleweave/rdf/TripleSink;"), (90, u "(I)Z"), (85, u "isAsciiLetter"), (10, u "EOF"), (0, u "I")] 62

def k2c0 : Code := { maxStack := 2, maxLocals := 1, code := prog_23_method_21_code, exceptionTable := #[], attributes := #[] }
def k2m0 : Method := { name := "isAsciiLetter", desc := "(I)Z", sig := { parameters := [.int], returnType := some .boolean }, accessFlags := 8, code := some k2c0 }
/-- com/example/tripleweave/tripleweave/rdf/TextParser -/
def k2 : Class := { plain "com/example/tripleweave/tripleweave/rdf/TextParser" (some 0) with
  accessFlags := 1056
  interfaces := #[]
  cf := some (fileOf pool2 13 #[] #[{ accessFlags := 8, nameIndex := 213, descriptorIndex := 127, attributes := #[] }] 1056 4 #[] #[{ accessFlags := 24, nameIndex := 224, descriptorIndex := 225, attributes := #[] }, { accessFlags := 16, nameIndex := 23, descriptorIndex := 24, attributes := #[] }, { accessFlags := 16, nameIndex := 35, descriptorIndex := 36, attributes := #[] }, { accessFlags := 18, nameIndex := 27, descriptorIndex := 28, attributes := #[] }, { accessFlags := 18, nameIndex := 31, descriptorIndex := 32, attributes := #[] }, { accessFlags := 18, nameIndex := 16, descriptorIndex := 17, attributes := #[] }])
  fields := #[{ name := "EOF", type := .int, accessFlags := 24, slot := 0, constantValue := 0 }, { name := "in", type := (.object "com/example/tripleweave/tripleweave/rdf/CharInput"), accessFlags := 16, slot := 0, constantValue := 0 }, { name := "sink", type := (.object "com/example/tripleweave/tripleweave/rdf/TripleSink"), accessFlags := 16, slot := 1, constantValue := 0 }, { name := "source", type := (.object "java/lang/String"), accessFlags := 18, slot := 2, constantValue := 0 }, { name := "blankNodes", type := (.object "com/example/tripleweave/tripleweave/rdf/BlankNodes"), accessFlags := 18, slot := 3, constantValue := 0 }, { name := "labelled", type := (.object "java/util/Map"), accessFlags := 18, slot := 4, constantValue := 0 }]
  methods := #[k2m0]
  instanceTypes := #[(.object "com/example/tripleweave/tripleweave/rdf/CharInput"), (.object "com/example/tripleweave/tripleweave/rdf/TripleSink"), (.object "java/lang/String"), (.object "com/example/tripleweave/tripleweave/rdf/BlankNodes"), (.object "java/util/Map")]
  staticTypes := #[.int]
  resolved := Array.replicate 288 none
  statics := none }

def pool3 : Array CpInfo := pool [(1, u "java/lang/Cloneable"), (0, .class_ 1), (0, u "java/lang/Object"), (0, .class_ 3)] 3

/-- java/lang/Cloneable -/
def k3 : Class := { plain "java/lang/Cloneable" (some 0) with
  accessFlags := 1537
  interfaces := #[]
  cf := some (fileOf pool3 2 #[] #[] 1537 4 #[] #[])
  fields := #[]
  methods := #[]
  instanceTypes := #[]
  staticTypes := #[]
  resolved := Array.replicate 8 none
  statics := none }

def pool4 : Array CpInfo := pool [(1, u "java/io/Serializable"), (0, .class_ 1), (0, u "java/lang/Object"), (0, .class_ 3)] 3

/-- java/io/Serializable -/
def k4 : Class := { plain "java/io/Serializable" (some 0) with
  accessFlags := 1537
  interfaces := #[]
  cf := some (fileOf pool4 2 #[] #[] 1537 4 #[] #[])
  fields := #[]
  methods := #[]
  instanceTypes := #[]
  staticTypes := #[]
  resolved := Array.replicate 8 none
  statics := none }

/-- the primitive byte -/
def k5 : Class := { plain "byte" none with kind := .primitive 'B', accessFlags := 0x411 }
/-- [B -/
def k6 : Class := { plain "[B" (some 0) with kind := .array 5 .byte, interfaces := #[3, 4], accessFlags := 1041 }

/-- the primitive int -/
def k7 : Class := { plain "int" none with kind := .primitive 'I', accessFlags := 0x411 }
/-- [I -/
def k8 : Class := { plain "[I" (some 0) with kind := .array 7 .int, interfaces := #[3, 4], accessFlags := 1041 }

def heap : Heap := #[]
def classes : Array Class := #[k0, k1, k2, k3, k4, k5, k6, k7, k8]
def interned : List (Array UInt16 × Addr) := []
def slotsUsed : Nat := 0
def theMethod : MethodId := ⟨1, 1⟩
def args0 : Array Value := #[.int 5, .int 5]
def aboutOver (below : List Frame) : State where
  vm := { classes := classes, interned := interned.toArray }
  heap := heap
  slotsUsed := slotsUsed
  threads := #[{ frames := .invoking theMethod args0 :: below }]
def below0 : List Frame := [.native { method := ⟨0, 0⟩, args := #[] }]
def about1 : State := aboutOver below0
def p0 : Program := .bare "" "" ""
def e0 : Env := launch0.env 0 0 0
theorem w_frames : about1.frames = Frame.invoking theMethod args0 :: below0 := rfl
set_option maxRecDepth 65536 in
theorem w_args : argsFit about1.vm theMethod args0 = true := by decide +kernel
set_option maxRecDepth 65536 in
theorem w_heap : heapFits about1 = true := by decide +kernel
set_option maxRecDepth 65536 in
theorem w_runnable : about1.curStatus? = some .runnable := by decide +kernel
set_option maxRecDepth 65536 in
theorem w_alone : about1.alone = true := by decide +kernel
set_option maxRecDepth 65536 in
theorem w_named : about1.methodNamed? x = some theMethod := by decide +kernel
set_option maxRecDepth 65536 in
theorem w_hears : about1.hears theMethod below0 = true := by decide +kernel
set_option maxRecDepth 65536 in
theorem w_ripe : about1.ripe theMethod args0 below0 = true := by decide +kernel
theorem w_running : about1.status = .running := rfl
set_option maxRecDepth 65536 in
theorem w_room : about1.hasRoom e0.platform room_1 = true :=
  launch0.hasRoom_least _ room_1 (by decide +kernel) (by decide +kernel) (by decide +kernel) (by decide +kernel) (by decide +kernel) (by decide +kernel)
theorem allAtoms_all (ts : List Jvm.Cond) (a : Array Jvm.Value) (st : Jvm.State) : (allAtoms ts).before a st = ts.all (fun c => c.before a st) := by
  induction ts with
  | nil => rfl
  | cons c t ih =>
    show (Jvm.Cond.and c (allAtoms t)).before a st = _
    rw [Jvm.Cond.before_and, ih, List.all_cons]
def words1 : List Jvm.Cond := Jvm.Cond.code x code maxLocals ret :: tables_1
/-- a 'code' word, met by the world's own term for the bytes: nothing is compared byte by byte -/
theorem code_word {y : MethodName} {bytes : ByteArray} {mx : Nat} {rt : Option FieldType} {a : Array Value} {s : State} {m : MethodId} {meth : Method} {c : Code} (h1 : s.methodNamed? y = some m) (h2 : s.vm.method? m = some meth) (h3 : meth.code = some c) (h4 : c.code = bytes)
    (h5 : (c.maxLocals == mx && c.exceptionTable.isEmpty && decide (c.maxStack ≤ mostOperands) && decide (meth.sig.returnType = rt) && !meth.locks && decide (parseMethodDescriptor y.desc = some meth.sig)) = true) : (Jvm.Cond.code y bytes mx rt).before a s = true := by
  simp only [Bool.and_eq_true, beq_iff_eq, Bool.not_eq_true', decide_eq_true_eq] at h5
  obtain ⟨⟨⟨⟨⟨g1, g2⟩, g3⟩, g4⟩, g5⟩, g6⟩ := h5
  simp [Cond.before, Cond.holds, Cond.value, h1, h2, h3, h4, g1, g2, g3, g4, g5, g6]
def isCode : Jvm.Cond → Bool
  | .code _ _ _ _ => true
  | _ => false
theorem all_split {L : List Jvm.Cond} {P : Jvm.Cond → Bool} (h1 : L.all (fun c => isCode c || P c) = true) (h2 : ∀ c ∈ L.filter isCode, P c = true) : L.all P = true := by
  refine List.all_eq_true.mpr fun c hc => ?_
  have h := List.all_eq_true.mp h1 c hc
  rcases Bool.eq_false_or_eq_true (isCode c) with hi | hi
  · exact h2 c (List.mem_filter.mpr ⟨hc, hi⟩)
  · simpa [hi] using h
set_option maxRecDepth 65536 in
theorem w_c0 : (Jvm.Cond.code x code maxLocals ret).before args0 about1 = true := code_word (m := ⟨1, 1⟩) (meth := k1m1) (c := k1c1) (by decide +kernel) rfl rfl rfl (by decide +kernel)
set_option maxRecDepth 65536 in
theorem w_c1 : (Jvm.Cond.code ({ cls := "com/example/tripleweave/tripleweave/rdf/TextParser", name := "isAsciiLetter", desc := "(I)Z" } : Jvm.MethodName) prog_23_method_21_code (1 : Nat) (Option.some Jvm.ClassFile.FieldType.boolean)).before args0 about1 = true := code_word (m := ⟨2, 0⟩) (meth := k2m0) (c := k2c0) (by decide +kernel) rfl rfl rfl (by decide +kernel)
set_option maxRecDepth 65536 in
theorem w_c2 : (Jvm.Cond.code ({ cls := "com/example/tripleweave/tripleweave/rdf/TextParserIsAsciiLetterPinLaw", name := "reference", desc := "(I)Z" } : Jvm.MethodName) method_3_code (2 : Nat) (Option.some Jvm.ClassFile.FieldType.boolean)).before args0 about1 = true := code_word (m := ⟨1, 2⟩) (meth := k1m2) (c := k1c2) (by decide +kernel) rfl rfl rfl (by decide +kernel)
def codes1 : List Jvm.Cond := [Jvm.Cond.code x code maxLocals ret, Jvm.Cond.code ({ cls := "com/example/tripleweave/tripleweave/rdf/TextParser", name := "isAsciiLetter", desc := "(I)Z" } : Jvm.MethodName) prog_23_method_21_code (1 : Nat) (Option.some Jvm.ClassFile.FieldType.boolean), Jvm.Cond.code ({ cls := "com/example/tripleweave/tripleweave/rdf/TextParserIsAsciiLetterPinLaw", name := "reference", desc := "(I)Z" } : Jvm.MethodName) method_3_code (2 : Nat) (Option.some Jvm.ClassFile.FieldType.boolean)]
set_option maxRecDepth 65536 in
theorem codes_eq : words1.filter isCode = codes1 := rfl
theorem w_codes : ∀ c ∈ words1.filter isCode, c.before args0 about1 = true := by
  rw [codes_eq]
  intro c hc
  simp only [codes1, List.mem_cons, List.not_mem_nil, or_false] at hc
  rcases hc with rfl | rfl | rfl
  · exact w_c0
  · exact w_c1
  · exact w_c2
set_option maxRecDepth 65536 in
theorem w_t1 : words1.all (fun c => isCode c || c.before args0 about1) = true := by decide +kernel
theorem w_tables : (allAtoms (Jvm.Cond.code x code maxLocals ret :: tables_1)).before args0 about1 = true := by
  rw [allAtoms_all]
  show words1.all (fun c => c.before args0 about1) = true
  refine all_split ?_ w_codes
  rw [w_t1]
set_option maxRecDepth 65536 in
theorem w_case : (Jvm.Cond.and given_1 narrow_1).before args0 about1 = true := by decide +kernel
theorem w_applies : (headSpec (Jvm.Cond.code x code maxLocals ret :: tables_1) room_1).applies x e0.platform about1 = true :=
  (Spec.applies_iff w_frames).mpr ⟨w_running, w_runnable, w_alone, w_named, w_hears, w_ripe, w_room, w_tables⟩
theorem atStart : AtStart classFile x code maxLocals ret World_1 tables_1 room_1 Calls_1 rest_1 Pre_1 launch0 p0 e0 about1 theMethod args0 below0 :=
  ⟨lists_1, trivial, launch0.admits_env _ _ _, launch0.least_env, fairChoices_fair.cas, fairChoices_fair.clock, w_frames, w_args, w_heap, w_applies, trivial, trivial, w_case⟩
end start1
theorem witness_1 : WitnessClaimed_1 := ⟨start1.p0, start1.e0, start1.about1, start1.theMethod, start1.args0, start1.below0, start1.atStart⟩
end Jvm.Pilot.@@N@@
