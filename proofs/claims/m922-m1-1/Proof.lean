import JvmDerived
import JvmDerived.Pilot.@@N@@Statement
import JvmDerived.Pilot.@@N@@Code
set_option linter.unusedVariables false
set_option linter.unusedSimpArgs false

namespace Jvm.RoadKit
open Sem ClassFile Op Lib Jvm.Stand Jvm.Free Jvm.LawKit
section New
variable {p : Program} {l : Launch} {e : Env} {R : Room} {s : State} {m : MethodId} {args : Array Value} {below : List Frame} {meth : Method} {c : Code} {T : State} {locs : List Loc} {cells slots : Nat}
theorem retI (X : Stand p l e R s m args below meth c T locs cells slots) (hx : p.tables.exec = Jvm.exec) {pc : Nat} {Ls : Array Slot} {z : Int32} {rest : List Value} (hret : meth.sig.returnType = some .int) (hd : decode c.code pc = .ok (.ireturn, 1)) {fs : List Frame}
    (hl : ∀ (f : JFrame) (acts : List Action), f.method = m → f.locked = none → f.entered = [] → (doReturn e (T.setTop f) acts (some (.int z))).1 = T.setFrames fs) : Steps p.tables e below (T.setTop (mkF m pc Ls (.int z :: rest))) (T.setFrames fs) := by
  have hm' : T.vm.method? m = some meth := X.method'
  have hn : narrow .int (.int z) = .int z := rfl
  show Steps p.tables e below (T.setTop { method := m, pc := pc, locals := Ls, stack := _ :: rest, locked := none }) _
  jvm_step X.here [X.here.top, hx, hd, hm', hret, hn]
  first | (intro acts; rw [hl _ acts rfl rfl rfl]) | rw [hl _ _ rfl rfl rfl]
  exact Steps.refl _
end New
end Jvm.RoadKit
namespace Jvm.Pilot.@@N@@
open Jvm Jvm.ClassFile Sem Op Lib Jvm.Free Jvm.Stand Jvm.LawKit Jvm.RoadKit Bundle Jvm.Pilot.@@N@@.Jvm.D
abbrev y_0 : MethodName := ⟨"com/example/tripleweave/tripleweave/rdf/Iris", "isIriChar", "(I)Z"⟩
abbrev y_1 : MethodName := ⟨"com/example/tripleweave/tripleweave/rdf/IrisIsIriCharPinLaw", "expected", "(I)Z"⟩
abbrev own_zl (n : Nat) : List Value := List.replicate n (.long (0 : Int64))
abbrev own_zi (n : Nat) : List Value := List.replicate n (.int (0 : Int32))
abbrev own_zr (n : Nat) : List Value := List.replicate n .null
abbrev vi (x : Int32) : Slot := .val (.int x)
abbrev vj (x : Int64) : Slot := .val (.long x)
abbrev vr (x : Addr) : Slot := .val (.ref x)
section Steps
variable {p : Program} {l : Launch} {e : Env} {R : Room} {s : State} {m : MethodId} {args : Array Value} {below : List Frame} {meth : Method} {c : Code} {T : State} {locs : List Loc} {cells slots : Nat} {pc pc' : Nat} {Ls L' : Array Slot} {S : List Value} {t : State} {Z : State} {h : Heap} {a : Addr} {cl : Cell}
abbrev Go (p : Program) (e : Env) (below : List Frame) (T0 : State) (g0 : JFrame) (T : State) (g : JFrame) : Prop := ∀ t, Steps p.tables e below (T.setTop g) t → Steps p.tables e below (T0.setTop g0) t
theorem own_w {Z : State} {a0 : Array Value} (hw : ∀ d ∈ tables_1, d.before a0 Z = true) (k : Nat) {d : Jvm.Cond} (h : tables_1[k]? = some d) : d.before a0 Z = true := hw _ (List.mem_of_getElem? h)
theorem o_iloadN (X : Stand p l e R s m args below meth c T locs cells slots) (hx : p.tables.exec = Jvm.exec) {i : Fin 4} {v : Int32} (hd : decode c.code pc = .ok (.iload_n i, 1)) (hl : Ls[i.val]? = some (.val (.int v))) (k : Steps p.tables e below (T.setTop (mkF m (pc + 1) Ls (.int v :: S))) t) : Steps p.tables e below (T.setTop (mkF m pc Ls (S))) t := XS.iloadN X.here hx rfl hd hl k
theorem o_istoreN (X : Stand p l e R s m args below meth c T locs cells slots) (hx : p.tables.exec = Jvm.exec) {i : Fin 4} {v : Int32} (hd : decode c.code pc = .ok (.istore_n i, 1)) (hl : storeLocals Ls i.val (.int v) = some L') (k : Steps p.tables e below (T.setTop (mkF m (pc + 1) L' (S))) t) : Steps p.tables e below (T.setTop (mkF m pc Ls (.int v :: S))) t := XS.istoreN X.here hx rfl hd rfl hl k
theorem o_iconst (X : Stand p l e R s m args below meth c T locs cells slots) (hx : p.tables.exec = Jvm.exec) {i : Int} {v : Int32} (hd : decode c.code pc = .ok (.iconst i, 1)) (hv : v = Int32.ofInt i) (k : Steps p.tables e below (T.setTop (mkF m (pc + 1) Ls (.int v :: S))) t) : Steps p.tables e below (T.setTop (mkF m pc Ls (S))) t := XS.iconst X.here hx rfl hd (hv ▸ k)
theorem o_bipush (X : Stand p l e R s m args below meth c T locs cells slots) (hx : p.tables.exec = Jvm.exec) {i : Int} {v : Int32} (hd : decode c.code pc = .ok (.bipush i, 2)) (hv : v = (Int8.ofInt i).toInt32) (k : Steps p.tables e below (T.setTop (mkF m (pc + 2) Ls (.int v :: S))) t) : Steps p.tables e below (T.setTop (mkF m pc Ls (S))) t := XS.bipush X.here hx rfl hd (hv ▸ k)
theorem o_iand (X : Stand p l e R s m args below meth c T locs cells slots) (hx : p.tables.exec = Jvm.exec) {x y : Int32} (hd : decode c.code pc = .ok (.iand, 1))  (k : Steps p.tables e below (T.setTop (mkF m (pc + 1) Ls (.int (x &&& y) :: S))) t) : Steps p.tables e below (T.setTop (mkF m pc Ls (.int y :: .int x :: S))) t := XS.iand X.here hx rfl hd rfl k
theorem o_goto (X : Stand p l e R s m args below meth c T locs cells slots) (hx : p.tables.exec = Jvm.exec) {o : Int} (hd : decode c.code pc = .ok (.goto o, 3)) (hp : ((pc : Int) + o).toNat = pc') (ho : 0 ≤ (pc : Int) + o) (k : Steps p.tables e below (T.setTop (mkF m (pc') Ls (S))) t) : Steps p.tables e below (T.setTop (mkF m pc Ls (S))) t := XS.goto X.here hx rfl rfl hd ho hp k
theorem o_icmpYes (X : Stand p l e R s m args below meth c T locs cells slots) (hx : p.tables.exec = Jvm.exec) {cd : ClassFile.Cond} {x y : Int32} {o : Int} (hd : decode c.code pc = .ok (.if_icmp cd o, 3)) (hp : ((pc : Int) + o).toNat = pc') (ho : 0 ≤ (pc : Int) + o) (hc : if_icmp.holds cd x y = true) (k : Steps p.tables e below (T.setTop (mkF m (pc') Ls (S))) t) : Steps p.tables e below (T.setTop (mkF m pc Ls (.int y :: .int x :: S))) t := XS.icmpYes X.here hx rfl rfl hd rfl hc ho hp k
theorem o_icmpNo (X : Stand p l e R s m args below meth c T locs cells slots) (hx : p.tables.exec = Jvm.exec) {cd : ClassFile.Cond} {x y : Int32} {o : Int} (hd : decode c.code pc = .ok (.if_icmp cd o, 3)) (hc : if_icmp.holds cd x y = false) (k : Steps p.tables e below (T.setTop (mkF m (pc + 3) Ls (S))) t) : Steps p.tables e below (T.setTop (mkF m pc Ls (.int y :: .int x :: S))) t := XS.icmpNo X.here hx rfl hd rfl hc k
end Steps
theorem own_ne {z k : Int32} {n : Int} (hk : k.toInt = n) (h : ¬ z = k) : ¬ n = z.toInt := fun q => h (Int32.toInt_inj.mp (by rw [hk, q]))
theorem own_lsw {tb : Tables} [Ours tb] {e : Env} {below : List Frame} {T target : State} {m : MethodId} {c : Code} {g : JFrame} (h : At T m c below) (hx : tb.exec = Jvm.exec) (hg : g.method = m) {dflt : Int} {pairs : Array (Int × Int)} {len : Nat} {o : Int} {pc0 pc' : Nat} (hpc : g.pc = pc0) (hd : decode c.code g.pc = .ok (.lookupswitch dflt pairs, len)) {i : Int32} {rest : List Value} (hs : g.stack = .int i :: rest)
    (hord : (pairs.toList.zip (pairs.toList.drop 1)).all (fun (a, next) => a.1 < next.1) = true) (hoff : Op.lookupswitch.offset pairs.toList dflt i.toInt = o) (ho : 0 ≤ (pc0 : Int) + o) (hp : ((pc0 : Int) + o).toNat = pc')
    (hr : Steps tb e below (T.setTop { g with pc := pc', stack := rest }) target) : Steps tb e below (T.setTop g) target := by
  subst hg hpc hp
  jvm_step h [h.top, hx, hd, hs, hord, hoff, ho, Op.lookupswitch.wp_chain]
  exact ⟨by simpa using hord, hr⟩

theorem d1_0 : decode prog_9_method_4_code 0 = .ok (.iload_n 0, 1) := by decide +kernel
theorem d1_1 : decode prog_9_method_4_code 1 = .ok (.bipush 32, 2) := by decide +kernel
theorem d1_3 : decode prog_9_method_4_code 3 = .ok (.if_icmp .gt 5, 3) := by decide +kernel
theorem d1_6 : decode prog_9_method_4_code 6 = .ok (.iconst 0, 1) := by decide +kernel
theorem d1_7 : decode prog_9_method_4_code 7 = .ok (.ireturn, 1) := by decide +kernel
theorem d1_8 : decode prog_9_method_4_code 8 = .ok (.iload_n 0, 1) := by decide +kernel
theorem d1_9 : decode prog_9_method_4_code 9 = .ok (.lookupswitch 85 #[(34, 83), (60, 83), (62, 83), (92, 83), (94, 83), (96, 83), (123, 83), (124, 83), (125, 83)], 83) := by decide +kernel
theorem d1_92 : decode prog_9_method_4_code 92 = .ok (.iconst 0, 1) := by decide +kernel
theorem d1_93 : decode prog_9_method_4_code 93 = .ok (.ireturn, 1) := by decide +kernel
theorem d1_94 : decode prog_9_method_4_code 94 = .ok (.iconst 1, 1) := by decide +kernel
theorem d1_95 : decode prog_9_method_4_code 95 = .ok (.ireturn, 1) := by decide +kernel
theorem pn_1 : plainName "com/example/tripleweave/tripleweave/rdf/Iris" = true := by first | (simp [plainName, overriddenIn]; done) | decide +kernel
theorem ef_1 (m : MethodId) (x0 : Int32) : entryFrame m #[(.int x0)] 1 = mkF m 0 #[vi x0] [] := by first | (simp [entryFrame, mkF, argsToLocals, Value.category]; done) | rfl
def f1 (p1 : Int32) : Int32 := (if (32 : Int32) < p1 then (if p1 = (34 : Int32) then (0 : Int32) else (if p1 = (60 : Int32) then (0 : Int32) else (if p1 = (62 : Int32) then (0 : Int32) else (if p1 = (92 : Int32) then (0 : Int32) else (if p1 = (94 : Int32) then (0 : Int32) else (if p1 = (96 : Int32) then (0 : Int32) else (if p1 = (123 : Int32) then (0 : Int32) else (if p1 = (124 : Int32) then (0 : Int32) else (if p1 = (125 : Int32) then (0 : Int32) else (1 : Int32)))))))))) else (0 : Int32))
def Q1 (Z : State) (p1 : Int32) (h0 : Heap) (n0 : Nat) (v : Option Value) (h : Heap) (L : List Loc) : Prop := v = some (.int (f1 p1)) ∧ Fr n0 L ∧ h = h0
set_option maxRecDepth 65536 in
set_option maxHeartbeats 40000000 in
theorem rm1 (l : Launch) (Z : State) (a0 : Array Value) (hw : ∀ d ∈ tables_1, d.before a0 Z = true) (ws : List Jvm.Cond) (p1 : Int32) (h0 : Heap) (n0 : Nat) (Z0 : n0 ≤ h0.size) :
    MetFree l y_0 (head1 (Jvm.Cond.code y_0 prog_9_method_4_code 1 (some .boolean) :: ws) ({ frames := 0, cells := 0, slots := 0, locals := 0 } : Room)) (fun a U => a = #[(.int p1)] ∧ Z.Warmed39 U.vm ∧ U.heap = h0) (fun _ _ _ _ _ => True) (fun _ U o U' => ∃ v L, o = .returned v ∧ Q1 Z p1 h0 n0 v U'.heap L ∧ FrameEnd U o U' L ({ frames := 0, cells := 0, slots := 0, locals := 0 } : Room).cells ({ frames := 0, cells := 0, slots := 0, locals := 0 } : Room).slots) := by
  refine MetFree.of_bodySF (plainFor_of_name pn_1) hisR ?_
  intro p e s m args below meth c s₁ Bd hml0 hP hK
  obtain ⟨rfl, hZ, hh⟩ := hP
  have hx := Bd.exec
  have hby := Bd.bytes
  have hml : c.maxLocals = 1 := hml0
  have hown : s.vm.findClass "com/example/tripleweave/tripleweave/rdf/Iris" = some m.cls := findClass_of_methodNamed Bd.named
  have hnm := (name_of_methodNamed Bd.named Bd.method).1
  have X0 : Stand p l e ({ frames := 0, cells := 0, slots := 0, locals := 0 } : Room) s m #[(.int p1)] below meth c s₁ [] 0 0 := Stand.of_body Bd
  have e0 : s₁.heap = h0 := by rw [← hh, Bd.state]; rfl
  have N0 := Fr.nil n0
  obtain ⟨F0, hF0⟩ : ∃ F : JFrame, F = entryFrame m #[(.int p1)] 1 := ⟨_, rfl⟩
  have pre0 : ∀ t, Steps p.tables e below (s₁.setTop F0) t → Steps p.tables e below (s₁.setTop (entryFrame m #[(.int p1)] 1)) t := fun t k => hF0 ▸ k
  have go0 : Go p e below s₁ F0 s₁ (mkF m 0 #[vi p1] []) := fun t k => castTop (hF0.trans (ef_1 m p1)) k
  have go1 : Go p e below s₁ F0 s₁ (mkF m 3 #[vi p1] [(.int (32 : Int32)), (.int p1)]) := by
    intro t kt
    refine go0 t ?_
    refine o_iloadN X0 hx (hb hby d1_0) rfl ?_
    refine o_bipush X0 hx (hb hby d1_1) (v := 32) rfl ?_
    exact kt
  by_cases hc3_2 : (32 : Int32) < p1
  · skip
    have go3 : Go p e below s₁ F0 s₁ (mkF m 9 #[vi p1] [(.int p1)]) := by
      intro t kt
      refine go1 t ?_
      refine o_icmpYes X0 hx (hb hby d1_3) (pc' := 8) rfl (by decide) (tlt hc3_2).2.2.1 ?_
      refine o_iloadN X0 hx (hb hby d1_8) rfl ?_
      exact kt
    by_cases hs9_4 : p1 = (34 : Int32)
    · skip
      have go5 : Go p e below s₁ F0 s₁ (mkF m 93 #[vi p1] [(.int (0 : Int32))]) := by
        intro t kt
        refine go3 t ?_
        refine own_lsw X0.here hx rfl (g := mkF _ _ _ _) (pc0 := 9) (pc' := 92) rfl (hb hby d1_9) rfl rfl (o := 83) (by rw [hs9_4]; rfl) (by decide) (by decide) ?_
        refine o_iconst X0 hx (hb hby d1_92) (v := 0) rfl ?_
        exact kt
      obtain ⟨fs, hr, hrun, hended, hW, hsame⟩ := X0.leave (v := some (.int (0 : Int32))) (fun h => by rw [Bd.returns] at h; cases h)
      refine ⟨_, _, pre0 _ (go5 _ ?_), hrun, hended, _, _, rfl, ?_, ⟨_, rfl⟩, hW, hsame.mono (by decide) (by decide)⟩
      · skip
        exact retN X0 hx (t := .boolean) Bd.returns (by simp) (hb hby d1_93) hr
      · show Q1 Z p1 h0 n0 _ s₁.heap _
        rw [e0]
        exact ⟨(congrArg (fun z => some (Value.int z)) (show (0 : Int32) = f1 p1 from by unfold f1; rw [if_pos hc3_2, if_pos hs9_4])), N0, rfl⟩
    · skip
      by_cases hs9_6 : p1 = (60 : Int32)
      · skip
        have go7 : Go p e below s₁ F0 s₁ (mkF m 93 #[vi p1] [(.int (0 : Int32))]) := by
          intro t kt
          refine go3 t ?_
          refine own_lsw X0.here hx rfl (g := mkF _ _ _ _) (pc0 := 9) (pc' := 92) rfl (hb hby d1_9) rfl rfl (o := 83) (by rw [hs9_6]; rfl) (by decide) (by decide) ?_
          refine o_iconst X0 hx (hb hby d1_92) (v := 0) rfl ?_
          exact kt
        obtain ⟨fs, hr, hrun, hended, hW, hsame⟩ := X0.leave (v := some (.int (0 : Int32))) (fun h => by rw [Bd.returns] at h; cases h)
        refine ⟨_, _, pre0 _ (go7 _ ?_), hrun, hended, _, _, rfl, ?_, ⟨_, rfl⟩, hW, hsame.mono (by decide) (by decide)⟩
        · skip
          exact retN X0 hx (t := .boolean) Bd.returns (by simp) (hb hby d1_93) hr
        · show Q1 Z p1 h0 n0 _ s₁.heap _
          rw [e0]
          exact ⟨(congrArg (fun z => some (Value.int z)) (show (0 : Int32) = f1 p1 from by unfold f1; rw [if_pos hc3_2, if_neg hs9_4, if_pos hs9_6])), N0, rfl⟩
      · skip
        by_cases hs9_8 : p1 = (62 : Int32)
        · skip
          have go9 : Go p e below s₁ F0 s₁ (mkF m 93 #[vi p1] [(.int (0 : Int32))]) := by
            intro t kt
            refine go3 t ?_
            refine own_lsw X0.here hx rfl (g := mkF _ _ _ _) (pc0 := 9) (pc' := 92) rfl (hb hby d1_9) rfl rfl (o := 83) (by rw [hs9_8]; rfl) (by decide) (by decide) ?_
            refine o_iconst X0 hx (hb hby d1_92) (v := 0) rfl ?_
            exact kt
          obtain ⟨fs, hr, hrun, hended, hW, hsame⟩ := X0.leave (v := some (.int (0 : Int32))) (fun h => by rw [Bd.returns] at h; cases h)
          refine ⟨_, _, pre0 _ (go9 _ ?_), hrun, hended, _, _, rfl, ?_, ⟨_, rfl⟩, hW, hsame.mono (by decide) (by decide)⟩
          · skip
            exact retN X0 hx (t := .boolean) Bd.returns (by simp) (hb hby d1_93) hr
          · show Q1 Z p1 h0 n0 _ s₁.heap _
            rw [e0]
            exact ⟨(congrArg (fun z => some (Value.int z)) (show (0 : Int32) = f1 p1 from by unfold f1; rw [if_pos hc3_2, if_neg hs9_4, if_neg hs9_6, if_pos hs9_8])), N0, rfl⟩
        · skip
          by_cases hs9_10 : p1 = (92 : Int32)
          · skip
            have go11 : Go p e below s₁ F0 s₁ (mkF m 93 #[vi p1] [(.int (0 : Int32))]) := by
              intro t kt
              refine go3 t ?_
              refine own_lsw X0.here hx rfl (g := mkF _ _ _ _) (pc0 := 9) (pc' := 92) rfl (hb hby d1_9) rfl rfl (o := 83) (by rw [hs9_10]; rfl) (by decide) (by decide) ?_
              refine o_iconst X0 hx (hb hby d1_92) (v := 0) rfl ?_
              exact kt
            obtain ⟨fs, hr, hrun, hended, hW, hsame⟩ := X0.leave (v := some (.int (0 : Int32))) (fun h => by rw [Bd.returns] at h; cases h)
            refine ⟨_, _, pre0 _ (go11 _ ?_), hrun, hended, _, _, rfl, ?_, ⟨_, rfl⟩, hW, hsame.mono (by decide) (by decide)⟩
            · skip
              exact retN X0 hx (t := .boolean) Bd.returns (by simp) (hb hby d1_93) hr
            · show Q1 Z p1 h0 n0 _ s₁.heap _
              rw [e0]
              exact ⟨(congrArg (fun z => some (Value.int z)) (show (0 : Int32) = f1 p1 from by unfold f1; rw [if_pos hc3_2, if_neg hs9_4, if_neg hs9_6, if_neg hs9_8, if_pos hs9_10])), N0, rfl⟩
          · skip
            by_cases hs9_12 : p1 = (94 : Int32)
            · skip
              have go13 : Go p e below s₁ F0 s₁ (mkF m 93 #[vi p1] [(.int (0 : Int32))]) := by
                intro t kt
                refine go3 t ?_
                refine own_lsw X0.here hx rfl (g := mkF _ _ _ _) (pc0 := 9) (pc' := 92) rfl (hb hby d1_9) rfl rfl (o := 83) (by rw [hs9_12]; rfl) (by decide) (by decide) ?_
                refine o_iconst X0 hx (hb hby d1_92) (v := 0) rfl ?_
                exact kt
              obtain ⟨fs, hr, hrun, hended, hW, hsame⟩ := X0.leave (v := some (.int (0 : Int32))) (fun h => by rw [Bd.returns] at h; cases h)
              refine ⟨_, _, pre0 _ (go13 _ ?_), hrun, hended, _, _, rfl, ?_, ⟨_, rfl⟩, hW, hsame.mono (by decide) (by decide)⟩
              · skip
                exact retN X0 hx (t := .boolean) Bd.returns (by simp) (hb hby d1_93) hr
              · show Q1 Z p1 h0 n0 _ s₁.heap _
                rw [e0]
                exact ⟨(congrArg (fun z => some (Value.int z)) (show (0 : Int32) = f1 p1 from by unfold f1; rw [if_pos hc3_2, if_neg hs9_4, if_neg hs9_6, if_neg hs9_8, if_neg hs9_10, if_pos hs9_12])), N0, rfl⟩
            · skip
              by_cases hs9_14 : p1 = (96 : Int32)
              · skip
                have go15 : Go p e below s₁ F0 s₁ (mkF m 93 #[vi p1] [(.int (0 : Int32))]) := by
                  intro t kt
                  refine go3 t ?_
                  refine own_lsw X0.here hx rfl (g := mkF _ _ _ _) (pc0 := 9) (pc' := 92) rfl (hb hby d1_9) rfl rfl (o := 83) (by rw [hs9_14]; rfl) (by decide) (by decide) ?_
                  refine o_iconst X0 hx (hb hby d1_92) (v := 0) rfl ?_
                  exact kt
                obtain ⟨fs, hr, hrun, hended, hW, hsame⟩ := X0.leave (v := some (.int (0 : Int32))) (fun h => by rw [Bd.returns] at h; cases h)
                refine ⟨_, _, pre0 _ (go15 _ ?_), hrun, hended, _, _, rfl, ?_, ⟨_, rfl⟩, hW, hsame.mono (by decide) (by decide)⟩
                · skip
                  exact retN X0 hx (t := .boolean) Bd.returns (by simp) (hb hby d1_93) hr
                · show Q1 Z p1 h0 n0 _ s₁.heap _
                  rw [e0]
                  exact ⟨(congrArg (fun z => some (Value.int z)) (show (0 : Int32) = f1 p1 from by unfold f1; rw [if_pos hc3_2, if_neg hs9_4, if_neg hs9_6, if_neg hs9_8, if_neg hs9_10, if_neg hs9_12, if_pos hs9_14])), N0, rfl⟩
              · skip
                by_cases hs9_16 : p1 = (123 : Int32)
                · skip
                  have go17 : Go p e below s₁ F0 s₁ (mkF m 93 #[vi p1] [(.int (0 : Int32))]) := by
                    intro t kt
                    refine go3 t ?_
                    refine own_lsw X0.here hx rfl (g := mkF _ _ _ _) (pc0 := 9) (pc' := 92) rfl (hb hby d1_9) rfl rfl (o := 83) (by rw [hs9_16]; rfl) (by decide) (by decide) ?_
                    refine o_iconst X0 hx (hb hby d1_92) (v := 0) rfl ?_
                    exact kt
                  obtain ⟨fs, hr, hrun, hended, hW, hsame⟩ := X0.leave (v := some (.int (0 : Int32))) (fun h => by rw [Bd.returns] at h; cases h)
                  refine ⟨_, _, pre0 _ (go17 _ ?_), hrun, hended, _, _, rfl, ?_, ⟨_, rfl⟩, hW, hsame.mono (by decide) (by decide)⟩
                  · skip
                    exact retN X0 hx (t := .boolean) Bd.returns (by simp) (hb hby d1_93) hr
                  · show Q1 Z p1 h0 n0 _ s₁.heap _
                    rw [e0]
                    exact ⟨(congrArg (fun z => some (Value.int z)) (show (0 : Int32) = f1 p1 from by unfold f1; rw [if_pos hc3_2, if_neg hs9_4, if_neg hs9_6, if_neg hs9_8, if_neg hs9_10, if_neg hs9_12, if_neg hs9_14, if_pos hs9_16])), N0, rfl⟩
                · skip
                  by_cases hs9_18 : p1 = (124 : Int32)
                  · skip
                    have go19 : Go p e below s₁ F0 s₁ (mkF m 93 #[vi p1] [(.int (0 : Int32))]) := by
                      intro t kt
                      refine go3 t ?_
                      refine own_lsw X0.here hx rfl (g := mkF _ _ _ _) (pc0 := 9) (pc' := 92) rfl (hb hby d1_9) rfl rfl (o := 83) (by rw [hs9_18]; rfl) (by decide) (by decide) ?_
                      refine o_iconst X0 hx (hb hby d1_92) (v := 0) rfl ?_
                      exact kt
                    obtain ⟨fs, hr, hrun, hended, hW, hsame⟩ := X0.leave (v := some (.int (0 : Int32))) (fun h => by rw [Bd.returns] at h; cases h)
                    refine ⟨_, _, pre0 _ (go19 _ ?_), hrun, hended, _, _, rfl, ?_, ⟨_, rfl⟩, hW, hsame.mono (by decide) (by decide)⟩
                    · skip
                      exact retN X0 hx (t := .boolean) Bd.returns (by simp) (hb hby d1_93) hr
                    · show Q1 Z p1 h0 n0 _ s₁.heap _
                      rw [e0]
                      exact ⟨(congrArg (fun z => some (Value.int z)) (show (0 : Int32) = f1 p1 from by unfold f1; rw [if_pos hc3_2, if_neg hs9_4, if_neg hs9_6, if_neg hs9_8, if_neg hs9_10, if_neg hs9_12, if_neg hs9_14, if_neg hs9_16, if_pos hs9_18])), N0, rfl⟩
                  · skip
                    by_cases hs9_20 : p1 = (125 : Int32)
                    · skip
                      have go21 : Go p e below s₁ F0 s₁ (mkF m 93 #[vi p1] [(.int (0 : Int32))]) := by
                        intro t kt
                        refine go3 t ?_
                        refine own_lsw X0.here hx rfl (g := mkF _ _ _ _) (pc0 := 9) (pc' := 92) rfl (hb hby d1_9) rfl rfl (o := 83) (by rw [hs9_20]; rfl) (by decide) (by decide) ?_
                        refine o_iconst X0 hx (hb hby d1_92) (v := 0) rfl ?_
                        exact kt
                      obtain ⟨fs, hr, hrun, hended, hW, hsame⟩ := X0.leave (v := some (.int (0 : Int32))) (fun h => by rw [Bd.returns] at h; cases h)
                      refine ⟨_, _, pre0 _ (go21 _ ?_), hrun, hended, _, _, rfl, ?_, ⟨_, rfl⟩, hW, hsame.mono (by decide) (by decide)⟩
                      · skip
                        exact retN X0 hx (t := .boolean) Bd.returns (by simp) (hb hby d1_93) hr
                      · show Q1 Z p1 h0 n0 _ s₁.heap _
                        rw [e0]
                        exact ⟨(congrArg (fun z => some (Value.int z)) (show (0 : Int32) = f1 p1 from by unfold f1; rw [if_pos hc3_2, if_neg hs9_4, if_neg hs9_6, if_neg hs9_8, if_neg hs9_10, if_neg hs9_12, if_neg hs9_14, if_neg hs9_16, if_neg hs9_18, if_pos hs9_20])), N0, rfl⟩
                    · skip
                      have go22 : Go p e below s₁ F0 s₁ (mkF m 95 #[vi p1] [(.int (1 : Int32))]) := by
                        intro t kt
                        refine go3 t ?_
                        refine own_lsw X0.here hx rfl (g := mkF _ _ _ _) (pc0 := 9) (pc' := 94) rfl (hb hby d1_9) rfl rfl (o := 85) (by show Op.lookupswitch.offset [(34, 83), (60, 83), (62, 83), (92, 83), (94, 83), (96, 83), (123, 83), (124, 83), (125, 83)] 85 p1.toInt = _; rw [Op.lookupswitch.offset_cons, if_neg (own_ne (n := 34) rfl hs9_4), Op.lookupswitch.offset_cons, if_neg (own_ne (n := 60) rfl hs9_6), Op.lookupswitch.offset_cons, if_neg (own_ne (n := 62) rfl hs9_8), Op.lookupswitch.offset_cons, if_neg (own_ne (n := 92) rfl hs9_10), Op.lookupswitch.offset_cons, if_neg (own_ne (n := 94) rfl hs9_12), Op.lookupswitch.offset_cons, if_neg (own_ne (n := 96) rfl hs9_14), Op.lookupswitch.offset_cons, if_neg (own_ne (n := 123) rfl hs9_16), Op.lookupswitch.offset_cons, if_neg (own_ne (n := 124) rfl hs9_18), Op.lookupswitch.offset_cons, if_neg (own_ne (n := 125) rfl hs9_20), Op.lookupswitch.offset_nil]) (by decide) (by decide) ?_
                        refine o_iconst X0 hx (hb hby d1_94) (v := 1) rfl ?_
                        exact kt
                      obtain ⟨fs, hr, hrun, hended, hW, hsame⟩ := X0.leave (v := some (.int (1 : Int32))) (fun h => by rw [Bd.returns] at h; cases h)
                      refine ⟨_, _, pre0 _ (go22 _ ?_), hrun, hended, _, _, rfl, ?_, ⟨_, rfl⟩, hW, hsame.mono (by decide) (by decide)⟩
                      · skip
                        exact retN X0 hx (t := .boolean) Bd.returns (by simp) (hb hby d1_95) hr
                      · show Q1 Z p1 h0 n0 _ s₁.heap _
                        rw [e0]
                        exact ⟨(congrArg (fun z => some (Value.int z)) (show (1 : Int32) = f1 p1 from by unfold f1; rw [if_pos hc3_2, if_neg hs9_4, if_neg hs9_6, if_neg hs9_8, if_neg hs9_10, if_neg hs9_12, if_neg hs9_14, if_neg hs9_16, if_neg hs9_18, if_neg hs9_20])), N0, rfl⟩
  · skip
    have go23 : Go p e below s₁ F0 s₁ (mkF m 7 #[vi p1] [(.int (0 : Int32))]) := by
      intro t kt
      refine go1 t ?_
      refine o_icmpNo X0 hx (hb hby d1_3) (flt hc3_2).2.2.1 ?_
      refine o_iconst X0 hx (hb hby d1_6) (v := 0) rfl ?_
      exact kt
    obtain ⟨fs, hr, hrun, hended, hW, hsame⟩ := X0.leave (v := some (.int (0 : Int32))) (fun h => by rw [Bd.returns] at h; cases h)
    refine ⟨_, _, pre0 _ (go23 _ ?_), hrun, hended, _, _, rfl, ?_, ⟨_, rfl⟩, hW, hsame.mono (by decide) (by decide)⟩
    · skip
      exact retN X0 hx (t := .boolean) Bd.returns (by simp) (hb hby d1_7) hr
    · show Q1 Z p1 h0 n0 _ s₁.heap _
      rw [e0]
      exact ⟨(congrArg (fun z => some (Value.int z)) (show (0 : Int32) = f1 p1 from by unfold f1; rw [if_neg hc3_2])), N0, rfl⟩

theorem d2_0 : decode method_3_code 0 = .ok (.iload_n 0, 1) := by decide +kernel
theorem d2_1 : decode method_3_code 1 = .ok (.bipush 33, 2) := by decide +kernel
theorem d2_3 : decode method_3_code 3 = .ok (.if_icmp .ge 5, 3) := by decide +kernel
theorem d2_6 : decode method_3_code 6 = .ok (.iconst 0, 1) := by decide +kernel
theorem d2_7 : decode method_3_code 7 = .ok (.ireturn, 1) := by decide +kernel
theorem d2_8 : decode method_3_code 8 = .ok (.iload_n 0, 1) := by decide +kernel
theorem d2_9 : decode method_3_code 9 = .ok (.bipush 127, 2) := by decide +kernel
theorem d2_11 : decode method_3_code 11 = .ok (.if_icmp .lt 5, 3) := by decide +kernel
theorem d2_14 : decode method_3_code 14 = .ok (.iconst 1, 1) := by decide +kernel
theorem d2_15 : decode method_3_code 15 = .ok (.ireturn, 1) := by decide +kernel
theorem d2_16 : decode method_3_code 16 = .ok (.iload_n 0, 1) := by decide +kernel
theorem d2_17 : decode method_3_code 17 = .ok (.bipush 33, 2) := by decide +kernel
theorem d2_19 : decode method_3_code 19 = .ok (.if_icmp .ne 5, 3) := by decide +kernel
theorem d2_22 : decode method_3_code 22 = .ok (.iconst 1, 1) := by decide +kernel
theorem d2_23 : decode method_3_code 23 = .ok (.ireturn, 1) := by decide +kernel
theorem d2_24 : decode method_3_code 24 = .ok (.iload_n 0, 1) := by decide +kernel
theorem d2_25 : decode method_3_code 25 = .ok (.bipush 34, 2) := by decide +kernel
theorem d2_27 : decode method_3_code 27 = .ok (.if_icmp .ne 5, 3) := by decide +kernel
theorem d2_30 : decode method_3_code 30 = .ok (.iconst 0, 1) := by decide +kernel
theorem d2_31 : decode method_3_code 31 = .ok (.ireturn, 1) := by decide +kernel
theorem d2_32 : decode method_3_code 32 = .ok (.iload_n 0, 1) := by decide +kernel
theorem d2_33 : decode method_3_code 33 = .ok (.bipush 59, 2) := by decide +kernel
theorem d2_35 : decode method_3_code 35 = .ok (.if_icmp .gt 5, 3) := by decide +kernel
theorem d2_38 : decode method_3_code 38 = .ok (.iconst 1, 1) := by decide +kernel
theorem d2_39 : decode method_3_code 39 = .ok (.ireturn, 1) := by decide +kernel
theorem d2_40 : decode method_3_code 40 = .ok (.iload_n 0, 1) := by decide +kernel
theorem d2_41 : decode method_3_code 41 = .ok (.bipush 61, 2) := by decide +kernel
theorem d2_43 : decode method_3_code 43 = .ok (.if_icmp .ne 5, 3) := by decide +kernel
theorem d2_46 : decode method_3_code 46 = .ok (.iconst 1, 1) := by decide +kernel
theorem d2_47 : decode method_3_code 47 = .ok (.ireturn, 1) := by decide +kernel
theorem d2_48 : decode method_3_code 48 = .ok (.iload_n 0, 1) := by decide +kernel
theorem d2_49 : decode method_3_code 49 = .ok (.bipush 62, 2) := by decide +kernel
theorem d2_51 : decode method_3_code 51 = .ok (.if_icmp .gt 5, 3) := by decide +kernel
theorem d2_54 : decode method_3_code 54 = .ok (.iconst 0, 1) := by decide +kernel
theorem d2_55 : decode method_3_code 55 = .ok (.ireturn, 1) := by decide +kernel
theorem d2_56 : decode method_3_code 56 = .ok (.iload_n 0, 1) := by decide +kernel
theorem d2_57 : decode method_3_code 57 = .ok (.bipush 91, 2) := by decide +kernel
theorem d2_59 : decode method_3_code 59 = .ok (.if_icmp .gt 5, 3) := by decide +kernel
theorem d2_62 : decode method_3_code 62 = .ok (.iconst 1, 1) := by decide +kernel
theorem d2_63 : decode method_3_code 63 = .ok (.ireturn, 1) := by decide +kernel
theorem d2_64 : decode method_3_code 64 = .ok (.iload_n 0, 1) := by decide +kernel
theorem d2_65 : decode method_3_code 65 = .ok (.bipush 93, 2) := by decide +kernel
theorem d2_67 : decode method_3_code 67 = .ok (.if_icmp .ne 5, 3) := by decide +kernel
theorem d2_70 : decode method_3_code 70 = .ok (.iconst 1, 1) := by decide +kernel
theorem d2_71 : decode method_3_code 71 = .ok (.ireturn, 1) := by decide +kernel
theorem d2_72 : decode method_3_code 72 = .ok (.iload_n 0, 1) := by decide +kernel
theorem d2_73 : decode method_3_code 73 = .ok (.bipush 95, 2) := by decide +kernel
theorem d2_75 : decode method_3_code 75 = .ok (.if_icmp .ne 5, 3) := by decide +kernel
theorem d2_78 : decode method_3_code 78 = .ok (.iconst 1, 1) := by decide +kernel
theorem d2_79 : decode method_3_code 79 = .ok (.ireturn, 1) := by decide +kernel
theorem d2_80 : decode method_3_code 80 = .ok (.iload_n 0, 1) := by decide +kernel
theorem d2_81 : decode method_3_code 81 = .ok (.bipush 96, 2) := by decide +kernel
theorem d2_83 : decode method_3_code 83 = .ok (.if_icmp .gt 5, 3) := by decide +kernel
theorem d2_86 : decode method_3_code 86 = .ok (.iconst 0, 1) := by decide +kernel
theorem d2_87 : decode method_3_code 87 = .ok (.ireturn, 1) := by decide +kernel
theorem d2_88 : decode method_3_code 88 = .ok (.iload_n 0, 1) := by decide +kernel
theorem d2_89 : decode method_3_code 89 = .ok (.bipush 122, 2) := by decide +kernel
theorem d2_91 : decode method_3_code 91 = .ok (.if_icmp .gt 5, 3) := by decide +kernel
theorem d2_94 : decode method_3_code 94 = .ok (.iconst 1, 1) := by decide +kernel
theorem d2_95 : decode method_3_code 95 = .ok (.ireturn, 1) := by decide +kernel
theorem d2_96 : decode method_3_code 96 = .ok (.iload_n 0, 1) := by decide +kernel
theorem d2_97 : decode method_3_code 97 = .ok (.bipush 126, 2) := by decide +kernel
theorem d2_99 : decode method_3_code 99 = .ok (.if_icmp .ne 5, 3) := by decide +kernel
theorem d2_102 : decode method_3_code 102 = .ok (.iconst 1, 1) := by decide +kernel
theorem d2_103 : decode method_3_code 103 = .ok (.ireturn, 1) := by decide +kernel
theorem d2_104 : decode method_3_code 104 = .ok (.iconst 0, 1) := by decide +kernel
theorem d2_105 : decode method_3_code 105 = .ok (.ireturn, 1) := by decide +kernel
theorem pn_2 : plainName "com/example/tripleweave/tripleweave/rdf/IrisIsIriCharPinLaw" = true := by first | (simp [plainName, overriddenIn]; done) | decide +kernel
theorem ef_2 (m : MethodId) (x0 : Int32) : entryFrame m #[(.int x0)] 1 = mkF m 0 #[vi x0] [] := by first | (simp [entryFrame, mkF, argsToLocals, Value.category]; done) | rfl
def f2 (p1 : Int32) : Int32 := (if p1 < (33 : Int32) then (0 : Int32) else (if p1 < (127 : Int32) then (if p1 = (33 : Int32) then (1 : Int32) else (if p1 = (34 : Int32) then (0 : Int32) else (if (59 : Int32) < p1 then (if p1 = (61 : Int32) then (1 : Int32) else (if (62 : Int32) < p1 then (if (91 : Int32) < p1 then (if p1 = (93 : Int32) then (1 : Int32) else (if p1 = (95 : Int32) then (1 : Int32) else (if (96 : Int32) < p1 then (if (122 : Int32) < p1 then (if p1 = (126 : Int32) then (1 : Int32) else (0 : Int32)) else (1 : Int32)) else (0 : Int32)))) else (1 : Int32)) else (0 : Int32))) else (1 : Int32)))) else (1 : Int32)))
def Q2 (Z : State) (p1 : Int32) (h0 : Heap) (n0 : Nat) (v : Option Value) (h : Heap) (L : List Loc) : Prop := v = some (.int (f2 p1)) ∧ Fr n0 L ∧ h = h0
set_option maxRecDepth 65536 in
set_option maxHeartbeats 40000000 in
theorem rm2 (l : Launch) (Z : State) (a0 : Array Value) (hw : ∀ d ∈ tables_1, d.before a0 Z = true) (ws : List Jvm.Cond) (p1 : Int32) (h0 : Heap) (n0 : Nat) (Z0 : n0 ≤ h0.size) :
    MetFree l y_1 (head1 (Jvm.Cond.code y_1 method_3_code 1 (some .boolean) :: ws) ({ frames := 0, cells := 0, slots := 0, locals := 0 } : Room)) (fun a U => a = #[(.int p1)] ∧ Z.Warmed39 U.vm ∧ U.heap = h0) (fun _ _ _ _ _ => True) (fun _ U o U' => ∃ v L, o = .returned v ∧ Q2 Z p1 h0 n0 v U'.heap L ∧ FrameEnd U o U' L ({ frames := 0, cells := 0, slots := 0, locals := 0 } : Room).cells ({ frames := 0, cells := 0, slots := 0, locals := 0 } : Room).slots) := by
  refine MetFree.of_bodySF (plainFor_of_name pn_2) hisR ?_
  intro p e s m args below meth c s₁ Bd hml0 hP hK
  obtain ⟨rfl, hZ, hh⟩ := hP
  have hx := Bd.exec
  have hby := Bd.bytes
  have hml : c.maxLocals = 1 := hml0
  have hown : s.vm.findClass "com/example/tripleweave/tripleweave/rdf/IrisIsIriCharPinLaw" = some m.cls := findClass_of_methodNamed Bd.named
  have hnm := (name_of_methodNamed Bd.named Bd.method).1
  have X0 : Stand p l e ({ frames := 0, cells := 0, slots := 0, locals := 0 } : Room) s m #[(.int p1)] below meth c s₁ [] 0 0 := Stand.of_body Bd
  have e0 : s₁.heap = h0 := by rw [← hh, Bd.state]; rfl
  have N0 := Fr.nil n0
  obtain ⟨F0, hF0⟩ : ∃ F : JFrame, F = entryFrame m #[(.int p1)] 1 := ⟨_, rfl⟩
  have pre0 : ∀ t, Steps p.tables e below (s₁.setTop F0) t → Steps p.tables e below (s₁.setTop (entryFrame m #[(.int p1)] 1)) t := fun t k => hF0 ▸ k
  have go0 : Go p e below s₁ F0 s₁ (mkF m 0 #[vi p1] []) := fun t k => castTop (hF0.trans (ef_2 m p1)) k
  have go1 : Go p e below s₁ F0 s₁ (mkF m 3 #[vi p1] [(.int (33 : Int32)), (.int p1)]) := by
    intro t kt
    refine go0 t ?_
    refine o_iloadN X0 hx (hb hby d2_0) rfl ?_
    refine o_bipush X0 hx (hb hby d2_1) (v := 33) rfl ?_
    exact kt
  by_cases hc3_2 : p1 < (33 : Int32)
  · skip
    have go3 : Go p e below s₁ F0 s₁ (mkF m 7 #[vi p1] [(.int (0 : Int32))]) := by
      intro t kt
      refine go1 t ?_
      refine o_icmpNo X0 hx (hb hby d2_3) (tlt hc3_2).2.1 ?_
      refine o_iconst X0 hx (hb hby d2_6) (v := 0) rfl ?_
      exact kt
    obtain ⟨fs, hr, hrun, hended, hW, hsame⟩ := X0.leave (v := some (.int (0 : Int32))) (fun h => by rw [Bd.returns] at h; cases h)
    refine ⟨_, _, pre0 _ (go3 _ ?_), hrun, hended, _, _, rfl, ?_, ⟨_, rfl⟩, hW, hsame.mono (by decide) (by decide)⟩
    · skip
      exact retN X0 hx (t := .boolean) Bd.returns (by simp) (hb hby d2_7) hr
    · show Q2 Z p1 h0 n0 _ s₁.heap _
      rw [e0]
      exact ⟨(congrArg (fun z => some (Value.int z)) (show (0 : Int32) = f2 p1 from by unfold f2; rw [if_pos hc3_2])), N0, rfl⟩
  · skip
    have go4 : Go p e below s₁ F0 s₁ (mkF m 11 #[vi p1] [(.int (127 : Int32)), (.int p1)]) := by
      intro t kt
      refine go1 t ?_
      refine o_icmpYes X0 hx (hb hby d2_3) (pc' := 8) rfl (by decide) (flt hc3_2).2.1 ?_
      refine o_iloadN X0 hx (hb hby d2_8) rfl ?_
      refine o_bipush X0 hx (hb hby d2_9) (v := 127) rfl ?_
      exact kt
    by_cases hc11_5 : p1 < (127 : Int32)
    · skip
      have go6 : Go p e below s₁ F0 s₁ (mkF m 19 #[vi p1] [(.int (33 : Int32)), (.int p1)]) := by
        intro t kt
        refine go4 t ?_
        refine o_icmpYes X0 hx (hb hby d2_11) (pc' := 16) rfl (by decide) (tlt hc11_5).1 ?_
        refine o_iloadN X0 hx (hb hby d2_16) rfl ?_
        refine o_bipush X0 hx (hb hby d2_17) (v := 33) rfl ?_
        exact kt
      by_cases hc19_7 : p1 = (33 : Int32)
      · skip
        have go8 : Go p e below s₁ F0 s₁ (mkF m 23 #[vi p1] [(.int (1 : Int32))]) := by
          intro t kt
          refine go6 t ?_
          refine o_icmpNo X0 hx (hb hby d2_19) (teq hc19_7).2 ?_
          refine o_iconst X0 hx (hb hby d2_22) (v := 1) rfl ?_
          exact kt
        obtain ⟨fs, hr, hrun, hended, hW, hsame⟩ := X0.leave (v := some (.int (1 : Int32))) (fun h => by rw [Bd.returns] at h; cases h)
        refine ⟨_, _, pre0 _ (go8 _ ?_), hrun, hended, _, _, rfl, ?_, ⟨_, rfl⟩, hW, hsame.mono (by decide) (by decide)⟩
        · skip
          exact retN X0 hx (t := .boolean) Bd.returns (by simp) (hb hby d2_23) hr
        · show Q2 Z p1 h0 n0 _ s₁.heap _
          rw [e0]
          exact ⟨(congrArg (fun z => some (Value.int z)) (show (1 : Int32) = f2 p1 from by unfold f2; rw [if_neg hc3_2, if_pos hc11_5, if_pos hc19_7])), N0, rfl⟩
      · skip
        have go9 : Go p e below s₁ F0 s₁ (mkF m 27 #[vi p1] [(.int (34 : Int32)), (.int p1)]) := by
          intro t kt
          refine go6 t ?_
          refine o_icmpYes X0 hx (hb hby d2_19) (pc' := 24) rfl (by decide) (feq hc19_7).2 ?_
          refine o_iloadN X0 hx (hb hby d2_24) rfl ?_
          refine o_bipush X0 hx (hb hby d2_25) (v := 34) rfl ?_
          exact kt
        by_cases hc27_10 : p1 = (34 : Int32)
        · skip
          have go11 : Go p e below s₁ F0 s₁ (mkF m 31 #[vi p1] [(.int (0 : Int32))]) := by
            intro t kt
            refine go9 t ?_
            refine o_icmpNo X0 hx (hb hby d2_27) (teq hc27_10).2 ?_
            refine o_iconst X0 hx (hb hby d2_30) (v := 0) rfl ?_
            exact kt
          obtain ⟨fs, hr, hrun, hended, hW, hsame⟩ := X0.leave (v := some (.int (0 : Int32))) (fun h => by rw [Bd.returns] at h; cases h)
          refine ⟨_, _, pre0 _ (go11 _ ?_), hrun, hended, _, _, rfl, ?_, ⟨_, rfl⟩, hW, hsame.mono (by decide) (by decide)⟩
          · skip
            exact retN X0 hx (t := .boolean) Bd.returns (by simp) (hb hby d2_31) hr
          · show Q2 Z p1 h0 n0 _ s₁.heap _
            rw [e0]
            exact ⟨(congrArg (fun z => some (Value.int z)) (show (0 : Int32) = f2 p1 from by unfold f2; rw [if_neg hc3_2, if_pos hc11_5, if_neg hc19_7, if_pos hc27_10])), N0, rfl⟩
        · skip
          have go12 : Go p e below s₁ F0 s₁ (mkF m 35 #[vi p1] [(.int (59 : Int32)), (.int p1)]) := by
            intro t kt
            refine go9 t ?_
            refine o_icmpYes X0 hx (hb hby d2_27) (pc' := 32) rfl (by decide) (feq hc27_10).2 ?_
            refine o_iloadN X0 hx (hb hby d2_32) rfl ?_
            refine o_bipush X0 hx (hb hby d2_33) (v := 59) rfl ?_
            exact kt
          by_cases hc35_13 : (59 : Int32) < p1
          · skip
            have go14 : Go p e below s₁ F0 s₁ (mkF m 43 #[vi p1] [(.int (61 : Int32)), (.int p1)]) := by
              intro t kt
              refine go12 t ?_
              refine o_icmpYes X0 hx (hb hby d2_35) (pc' := 40) rfl (by decide) (tlt hc35_13).2.2.1 ?_
              refine o_iloadN X0 hx (hb hby d2_40) rfl ?_
              refine o_bipush X0 hx (hb hby d2_41) (v := 61) rfl ?_
              exact kt
            by_cases hc43_15 : p1 = (61 : Int32)
            · skip
              have go16 : Go p e below s₁ F0 s₁ (mkF m 47 #[vi p1] [(.int (1 : Int32))]) := by
                intro t kt
                refine go14 t ?_
                refine o_icmpNo X0 hx (hb hby d2_43) (teq hc43_15).2 ?_
                refine o_iconst X0 hx (hb hby d2_46) (v := 1) rfl ?_
                exact kt
              obtain ⟨fs, hr, hrun, hended, hW, hsame⟩ := X0.leave (v := some (.int (1 : Int32))) (fun h => by rw [Bd.returns] at h; cases h)
              refine ⟨_, _, pre0 _ (go16 _ ?_), hrun, hended, _, _, rfl, ?_, ⟨_, rfl⟩, hW, hsame.mono (by decide) (by decide)⟩
              · skip
                exact retN X0 hx (t := .boolean) Bd.returns (by simp) (hb hby d2_47) hr
              · show Q2 Z p1 h0 n0 _ s₁.heap _
                rw [e0]
                exact ⟨(congrArg (fun z => some (Value.int z)) (show (1 : Int32) = f2 p1 from by unfold f2; rw [if_neg hc3_2, if_pos hc11_5, if_neg hc19_7, if_neg hc27_10, if_pos hc35_13, if_pos hc43_15])), N0, rfl⟩
            · skip
              have go17 : Go p e below s₁ F0 s₁ (mkF m 51 #[vi p1] [(.int (62 : Int32)), (.int p1)]) := by
                intro t kt
                refine go14 t ?_
                refine o_icmpYes X0 hx (hb hby d2_43) (pc' := 48) rfl (by decide) (feq hc43_15).2 ?_
                refine o_iloadN X0 hx (hb hby d2_48) rfl ?_
                refine o_bipush X0 hx (hb hby d2_49) (v := 62) rfl ?_
                exact kt
              by_cases hc51_18 : (62 : Int32) < p1
              · skip
                have go19 : Go p e below s₁ F0 s₁ (mkF m 59 #[vi p1] [(.int (91 : Int32)), (.int p1)]) := by
                  intro t kt
                  refine go17 t ?_
                  refine o_icmpYes X0 hx (hb hby d2_51) (pc' := 56) rfl (by decide) (tlt hc51_18).2.2.1 ?_
                  refine o_iloadN X0 hx (hb hby d2_56) rfl ?_
                  refine o_bipush X0 hx (hb hby d2_57) (v := 91) rfl ?_
                  exact kt
                by_cases hc59_20 : (91 : Int32) < p1
                · skip
                  have go21 : Go p e below s₁ F0 s₁ (mkF m 67 #[vi p1] [(.int (93 : Int32)), (.int p1)]) := by
                    intro t kt
                    refine go19 t ?_
                    refine o_icmpYes X0 hx (hb hby d2_59) (pc' := 64) rfl (by decide) (tlt hc59_20).2.2.1 ?_
                    refine o_iloadN X0 hx (hb hby d2_64) rfl ?_
                    refine o_bipush X0 hx (hb hby d2_65) (v := 93) rfl ?_
                    exact kt
                  by_cases hc67_22 : p1 = (93 : Int32)
                  · skip
                    have go23 : Go p e below s₁ F0 s₁ (mkF m 71 #[vi p1] [(.int (1 : Int32))]) := by
                      intro t kt
                      refine go21 t ?_
                      refine o_icmpNo X0 hx (hb hby d2_67) (teq hc67_22).2 ?_
                      refine o_iconst X0 hx (hb hby d2_70) (v := 1) rfl ?_
                      exact kt
                    obtain ⟨fs, hr, hrun, hended, hW, hsame⟩ := X0.leave (v := some (.int (1 : Int32))) (fun h => by rw [Bd.returns] at h; cases h)
                    refine ⟨_, _, pre0 _ (go23 _ ?_), hrun, hended, _, _, rfl, ?_, ⟨_, rfl⟩, hW, hsame.mono (by decide) (by decide)⟩
                    · skip
                      exact retN X0 hx (t := .boolean) Bd.returns (by simp) (hb hby d2_71) hr
                    · show Q2 Z p1 h0 n0 _ s₁.heap _
                      rw [e0]
                      exact ⟨(congrArg (fun z => some (Value.int z)) (show (1 : Int32) = f2 p1 from by unfold f2; rw [if_neg hc3_2, if_pos hc11_5, if_neg hc19_7, if_neg hc27_10, if_pos hc35_13, if_neg hc43_15, if_pos hc51_18, if_pos hc59_20, if_pos hc67_22])), N0, rfl⟩
                  · skip
                    have go24 : Go p e below s₁ F0 s₁ (mkF m 75 #[vi p1] [(.int (95 : Int32)), (.int p1)]) := by
                      intro t kt
                      refine go21 t ?_
                      refine o_icmpYes X0 hx (hb hby d2_67) (pc' := 72) rfl (by decide) (feq hc67_22).2 ?_
                      refine o_iloadN X0 hx (hb hby d2_72) rfl ?_
                      refine o_bipush X0 hx (hb hby d2_73) (v := 95) rfl ?_
                      exact kt
                    by_cases hc75_25 : p1 = (95 : Int32)
                    · skip
                      have go26 : Go p e below s₁ F0 s₁ (mkF m 79 #[vi p1] [(.int (1 : Int32))]) := by
                        intro t kt
                        refine go24 t ?_
                        refine o_icmpNo X0 hx (hb hby d2_75) (teq hc75_25).2 ?_
                        refine o_iconst X0 hx (hb hby d2_78) (v := 1) rfl ?_
                        exact kt
                      obtain ⟨fs, hr, hrun, hended, hW, hsame⟩ := X0.leave (v := some (.int (1 : Int32))) (fun h => by rw [Bd.returns] at h; cases h)
                      refine ⟨_, _, pre0 _ (go26 _ ?_), hrun, hended, _, _, rfl, ?_, ⟨_, rfl⟩, hW, hsame.mono (by decide) (by decide)⟩
                      · skip
                        exact retN X0 hx (t := .boolean) Bd.returns (by simp) (hb hby d2_79) hr
                      · show Q2 Z p1 h0 n0 _ s₁.heap _
                        rw [e0]
                        exact ⟨(congrArg (fun z => some (Value.int z)) (show (1 : Int32) = f2 p1 from by unfold f2; rw [if_neg hc3_2, if_pos hc11_5, if_neg hc19_7, if_neg hc27_10, if_pos hc35_13, if_neg hc43_15, if_pos hc51_18, if_pos hc59_20, if_neg hc67_22, if_pos hc75_25])), N0, rfl⟩
                    · skip
                      have go27 : Go p e below s₁ F0 s₁ (mkF m 83 #[vi p1] [(.int (96 : Int32)), (.int p1)]) := by
                        intro t kt
                        refine go24 t ?_
                        refine o_icmpYes X0 hx (hb hby d2_75) (pc' := 80) rfl (by decide) (feq hc75_25).2 ?_
                        refine o_iloadN X0 hx (hb hby d2_80) rfl ?_
                        refine o_bipush X0 hx (hb hby d2_81) (v := 96) rfl ?_
                        exact kt
                      by_cases hc83_28 : (96 : Int32) < p1
                      · skip
                        have go29 : Go p e below s₁ F0 s₁ (mkF m 91 #[vi p1] [(.int (122 : Int32)), (.int p1)]) := by
                          intro t kt
                          refine go27 t ?_
                          refine o_icmpYes X0 hx (hb hby d2_83) (pc' := 88) rfl (by decide) (tlt hc83_28).2.2.1 ?_
                          refine o_iloadN X0 hx (hb hby d2_88) rfl ?_
                          refine o_bipush X0 hx (hb hby d2_89) (v := 122) rfl ?_
                          exact kt
                        by_cases hc91_30 : (122 : Int32) < p1
                        · skip
                          have go31 : Go p e below s₁ F0 s₁ (mkF m 99 #[vi p1] [(.int (126 : Int32)), (.int p1)]) := by
                            intro t kt
                            refine go29 t ?_
                            refine o_icmpYes X0 hx (hb hby d2_91) (pc' := 96) rfl (by decide) (tlt hc91_30).2.2.1 ?_
                            refine o_iloadN X0 hx (hb hby d2_96) rfl ?_
                            refine o_bipush X0 hx (hb hby d2_97) (v := 126) rfl ?_
                            exact kt
                          by_cases hc99_32 : p1 = (126 : Int32)
                          · skip
                            have go33 : Go p e below s₁ F0 s₁ (mkF m 103 #[vi p1] [(.int (1 : Int32))]) := by
                              intro t kt
                              refine go31 t ?_
                              refine o_icmpNo X0 hx (hb hby d2_99) (teq hc99_32).2 ?_
                              refine o_iconst X0 hx (hb hby d2_102) (v := 1) rfl ?_
                              exact kt
                            obtain ⟨fs, hr, hrun, hended, hW, hsame⟩ := X0.leave (v := some (.int (1 : Int32))) (fun h => by rw [Bd.returns] at h; cases h)
                            refine ⟨_, _, pre0 _ (go33 _ ?_), hrun, hended, _, _, rfl, ?_, ⟨_, rfl⟩, hW, hsame.mono (by decide) (by decide)⟩
                            · skip
                              exact retN X0 hx (t := .boolean) Bd.returns (by simp) (hb hby d2_103) hr
                            · show Q2 Z p1 h0 n0 _ s₁.heap _
                              rw [e0]
                              exact ⟨(congrArg (fun z => some (Value.int z)) (show (1 : Int32) = f2 p1 from by unfold f2; rw [if_neg hc3_2, if_pos hc11_5, if_neg hc19_7, if_neg hc27_10, if_pos hc35_13, if_neg hc43_15, if_pos hc51_18, if_pos hc59_20, if_neg hc67_22, if_neg hc75_25, if_pos hc83_28, if_pos hc91_30, if_pos hc99_32])), N0, rfl⟩
                          · skip
                            have go34 : Go p e below s₁ F0 s₁ (mkF m 105 #[vi p1] [(.int (0 : Int32))]) := by
                              intro t kt
                              refine go31 t ?_
                              refine o_icmpYes X0 hx (hb hby d2_99) (pc' := 104) rfl (by decide) (feq hc99_32).2 ?_
                              refine o_iconst X0 hx (hb hby d2_104) (v := 0) rfl ?_
                              exact kt
                            obtain ⟨fs, hr, hrun, hended, hW, hsame⟩ := X0.leave (v := some (.int (0 : Int32))) (fun h => by rw [Bd.returns] at h; cases h)
                            refine ⟨_, _, pre0 _ (go34 _ ?_), hrun, hended, _, _, rfl, ?_, ⟨_, rfl⟩, hW, hsame.mono (by decide) (by decide)⟩
                            · skip
                              exact retN X0 hx (t := .boolean) Bd.returns (by simp) (hb hby d2_105) hr
                            · show Q2 Z p1 h0 n0 _ s₁.heap _
                              rw [e0]
                              exact ⟨(congrArg (fun z => some (Value.int z)) (show (0 : Int32) = f2 p1 from by unfold f2; rw [if_neg hc3_2, if_pos hc11_5, if_neg hc19_7, if_neg hc27_10, if_pos hc35_13, if_neg hc43_15, if_pos hc51_18, if_pos hc59_20, if_neg hc67_22, if_neg hc75_25, if_pos hc83_28, if_pos hc91_30, if_neg hc99_32])), N0, rfl⟩
                        · skip
                          have go35 : Go p e below s₁ F0 s₁ (mkF m 95 #[vi p1] [(.int (1 : Int32))]) := by
                            intro t kt
                            refine go29 t ?_
                            refine o_icmpNo X0 hx (hb hby d2_91) (flt hc91_30).2.2.1 ?_
                            refine o_iconst X0 hx (hb hby d2_94) (v := 1) rfl ?_
                            exact kt
                          obtain ⟨fs, hr, hrun, hended, hW, hsame⟩ := X0.leave (v := some (.int (1 : Int32))) (fun h => by rw [Bd.returns] at h; cases h)
                          refine ⟨_, _, pre0 _ (go35 _ ?_), hrun, hended, _, _, rfl, ?_, ⟨_, rfl⟩, hW, hsame.mono (by decide) (by decide)⟩
                          · skip
                            exact retN X0 hx (t := .boolean) Bd.returns (by simp) (hb hby d2_95) hr
                          · show Q2 Z p1 h0 n0 _ s₁.heap _
                            rw [e0]
                            exact ⟨(congrArg (fun z => some (Value.int z)) (show (1 : Int32) = f2 p1 from by unfold f2; rw [if_neg hc3_2, if_pos hc11_5, if_neg hc19_7, if_neg hc27_10, if_pos hc35_13, if_neg hc43_15, if_pos hc51_18, if_pos hc59_20, if_neg hc67_22, if_neg hc75_25, if_pos hc83_28, if_neg hc91_30])), N0, rfl⟩
                      · skip
                        have go36 : Go p e below s₁ F0 s₁ (mkF m 87 #[vi p1] [(.int (0 : Int32))]) := by
                          intro t kt
                          refine go27 t ?_
                          refine o_icmpNo X0 hx (hb hby d2_83) (flt hc83_28).2.2.1 ?_
                          refine o_iconst X0 hx (hb hby d2_86) (v := 0) rfl ?_
                          exact kt
                        obtain ⟨fs, hr, hrun, hended, hW, hsame⟩ := X0.leave (v := some (.int (0 : Int32))) (fun h => by rw [Bd.returns] at h; cases h)
                        refine ⟨_, _, pre0 _ (go36 _ ?_), hrun, hended, _, _, rfl, ?_, ⟨_, rfl⟩, hW, hsame.mono (by decide) (by decide)⟩
                        · skip
                          exact retN X0 hx (t := .boolean) Bd.returns (by simp) (hb hby d2_87) hr
                        · show Q2 Z p1 h0 n0 _ s₁.heap _
                          rw [e0]
                          exact ⟨(congrArg (fun z => some (Value.int z)) (show (0 : Int32) = f2 p1 from by unfold f2; rw [if_neg hc3_2, if_pos hc11_5, if_neg hc19_7, if_neg hc27_10, if_pos hc35_13, if_neg hc43_15, if_pos hc51_18, if_pos hc59_20, if_neg hc67_22, if_neg hc75_25, if_neg hc83_28])), N0, rfl⟩
                · skip
                  have go37 : Go p e below s₁ F0 s₁ (mkF m 63 #[vi p1] [(.int (1 : Int32))]) := by
                    intro t kt
                    refine go19 t ?_
                    refine o_icmpNo X0 hx (hb hby d2_59) (flt hc59_20).2.2.1 ?_
                    refine o_iconst X0 hx (hb hby d2_62) (v := 1) rfl ?_
                    exact kt
                  obtain ⟨fs, hr, hrun, hended, hW, hsame⟩ := X0.leave (v := some (.int (1 : Int32))) (fun h => by rw [Bd.returns] at h; cases h)
                  refine ⟨_, _, pre0 _ (go37 _ ?_), hrun, hended, _, _, rfl, ?_, ⟨_, rfl⟩, hW, hsame.mono (by decide) (by decide)⟩
                  · skip
                    exact retN X0 hx (t := .boolean) Bd.returns (by simp) (hb hby d2_63) hr
                  · show Q2 Z p1 h0 n0 _ s₁.heap _
                    rw [e0]
                    exact ⟨(congrArg (fun z => some (Value.int z)) (show (1 : Int32) = f2 p1 from by unfold f2; rw [if_neg hc3_2, if_pos hc11_5, if_neg hc19_7, if_neg hc27_10, if_pos hc35_13, if_neg hc43_15, if_pos hc51_18, if_neg hc59_20])), N0, rfl⟩
              · skip
                have go38 : Go p e below s₁ F0 s₁ (mkF m 55 #[vi p1] [(.int (0 : Int32))]) := by
                  intro t kt
                  refine go17 t ?_
                  refine o_icmpNo X0 hx (hb hby d2_51) (flt hc51_18).2.2.1 ?_
                  refine o_iconst X0 hx (hb hby d2_54) (v := 0) rfl ?_
                  exact kt
                obtain ⟨fs, hr, hrun, hended, hW, hsame⟩ := X0.leave (v := some (.int (0 : Int32))) (fun h => by rw [Bd.returns] at h; cases h)
                refine ⟨_, _, pre0 _ (go38 _ ?_), hrun, hended, _, _, rfl, ?_, ⟨_, rfl⟩, hW, hsame.mono (by decide) (by decide)⟩
                · skip
                  exact retN X0 hx (t := .boolean) Bd.returns (by simp) (hb hby d2_55) hr
                · show Q2 Z p1 h0 n0 _ s₁.heap _
                  rw [e0]
                  exact ⟨(congrArg (fun z => some (Value.int z)) (show (0 : Int32) = f2 p1 from by unfold f2; rw [if_neg hc3_2, if_pos hc11_5, if_neg hc19_7, if_neg hc27_10, if_pos hc35_13, if_neg hc43_15, if_neg hc51_18])), N0, rfl⟩
          · skip
            have go39 : Go p e below s₁ F0 s₁ (mkF m 39 #[vi p1] [(.int (1 : Int32))]) := by
              intro t kt
              refine go12 t ?_
              refine o_icmpNo X0 hx (hb hby d2_35) (flt hc35_13).2.2.1 ?_
              refine o_iconst X0 hx (hb hby d2_38) (v := 1) rfl ?_
              exact kt
            obtain ⟨fs, hr, hrun, hended, hW, hsame⟩ := X0.leave (v := some (.int (1 : Int32))) (fun h => by rw [Bd.returns] at h; cases h)
            refine ⟨_, _, pre0 _ (go39 _ ?_), hrun, hended, _, _, rfl, ?_, ⟨_, rfl⟩, hW, hsame.mono (by decide) (by decide)⟩
            · skip
              exact retN X0 hx (t := .boolean) Bd.returns (by simp) (hb hby d2_39) hr
            · show Q2 Z p1 h0 n0 _ s₁.heap _
              rw [e0]
              exact ⟨(congrArg (fun z => some (Value.int z)) (show (1 : Int32) = f2 p1 from by unfold f2; rw [if_neg hc3_2, if_pos hc11_5, if_neg hc19_7, if_neg hc27_10, if_neg hc35_13])), N0, rfl⟩
    · skip
      have go40 : Go p e below s₁ F0 s₁ (mkF m 15 #[vi p1] [(.int (1 : Int32))]) := by
        intro t kt
        refine go4 t ?_
        refine o_icmpNo X0 hx (hb hby d2_11) (flt hc11_5).1 ?_
        refine o_iconst X0 hx (hb hby d2_14) (v := 1) rfl ?_
        exact kt
      obtain ⟨fs, hr, hrun, hended, hW, hsame⟩ := X0.leave (v := some (.int (1 : Int32))) (fun h => by rw [Bd.returns] at h; cases h)
      refine ⟨_, _, pre0 _ (go40 _ ?_), hrun, hended, _, _, rfl, ?_, ⟨_, rfl⟩, hW, hsame.mono (by decide) (by decide)⟩
      · skip
        exact retN X0 hx (t := .boolean) Bd.returns (by simp) (hb hby d2_15) hr
      · show Q2 Z p1 h0 n0 _ s₁.heap _
        rw [e0]
        exact ⟨(congrArg (fun z => some (Value.int z)) (show (1 : Int32) = f2 p1 from by unfold f2; rw [if_neg hc3_2, if_neg hc11_5])), N0, rfl⟩


theorem own_mid : ∀ i : Fin 96, f1 (Int32.ofNat (32 + i.1)) = f2 (Int32.ofNat (32 + i.1)) := by decide +kernel
theorem own_law (x : Int32) : f1 x = f2 x := by
  by_cases h : 32 ≤ x.toInt ∧ x.toInt ≤ 127
  · have q := own_mid ⟨(x.toInt - 32).toNat, by omega⟩
    have e : Int32.ofNat (32 + (x.toInt - 32).toNat) = x := by
      apply Int32.toInt_inj.mp
      rw [Int32.toInt_ofNat_of_lt (by omega)]
      omega
    rwa [e] at q
  · by_cases h2 : x.toInt < 32
    · unfold f1 f2
      rw [if_neg (show ¬ (32 : Int32) < x by rw [Int32.lt_iff_toInt_lt, show (32 : Int32).toInt = 32 from rfl]; omega), if_pos (show x < (33 : Int32) by rw [Int32.lt_iff_toInt_lt, show (33 : Int32).toInt = 33 from rfl]; omega)]
    · have ne : ∀ k : Int32, k.toInt ≤ 127 → ¬ x = k := fun k hk q => by subst q; omega
      unfold f1 f2
      rw [if_pos (show (32 : Int32) < x by rw [Int32.lt_iff_toInt_lt, show (32 : Int32).toInt = 32 from rfl]; omega), if_neg (ne 34 (by decide)), if_neg (ne 60 (by decide)), if_neg (ne 62 (by decide)), if_neg (ne 92 (by decide)), if_neg (ne 94 (by decide)), if_neg (ne 96 (by decide)), if_neg (ne 123 (by decide)), if_neg (ne 124 (by decide)), if_neg (ne 125 (by decide)), if_neg (show ¬ x < (33 : Int32) by rw [Int32.lt_iff_toInt_lt, show (33 : Int32).toInt = 33 from rfl]; omega), if_neg (show ¬ x < (127 : Int32) by rw [Int32.lt_iff_toInt_lt, show (127 : Int32).toInt = 127 from rfl]; omega)]

theorem pn_0 : plainName "com/example/tripleweave/tripleweave/rdf/IrisIsIriCharPinLaw" = true := by first | (simp [plainName, overriddenIn]; done) | decide +kernel
theorem pd0_0 : parseMethodDescriptor "(I)Z" = some ⟨[.int], some .boolean⟩ := by decide +kernel
theorem ef_0 (m : MethodId) (x0 : Int32) (x1 : Int32) : entryFrame m #[(.int x0), (.int x1)] maxLocals = mkF m 0 #[vi x0, vi x1, .unset] [] := by first | (simp [entryFrame, mkF, argsToLocals, Value.category, maxLocals]; done) | rfl
def Q0 (Z : State) (p1 : Int32) (p2 : Int32) (h0 : Heap) (n0 : Nat) (v : Option Value) (h : Heap) (L : List Loc) : Prop := v = some (.int (1 : Int32)) ∧ Fr n0 L
set_option maxRecDepth 65536 in
set_option maxHeartbeats 40000000 in
theorem rm0 (l : Launch) (Z : State) (a0 : Array Value) (hw : ∀ d ∈ tables_1, d.before a0 Z = true) (ws : List Jvm.Cond) (p1 : Int32) (p2 : Int32) (h0 : Heap) (n0 : Nat) (Z0 : n0 ≤ h0.size) :
    MetFree l x (head1 (Jvm.Cond.code x code maxLocals ret :: ws) room_1) (fun a U => a = #[(.int p1), (.int p2)] ∧ Z.Warmed39 U.vm ∧ U.heap = h0) (fun _ _ _ _ _ => True) (fun _ U o U' => ∃ v L, o = .returned v ∧ Q0 Z p1 p2 h0 n0 v U'.heap L ∧ FrameEnd U o U' L room_1.cells room_1.slots) := by
  refine MetFree.of_bodySF (plainFor_of_name pn_0) hisR ?_
  intro p e s m args below meth c s₁ Bd hml0 hP hK
  obtain ⟨rfl, hZ, hh⟩ := hP
  have hx := Bd.exec
  have hby := Bd.bytes
  have hml : c.maxLocals = 3 := hml0
  have hown : s.vm.findClass "com/example/tripleweave/tripleweave/rdf/IrisIsIriCharPinLaw" = some m.cls := findClass_of_methodNamed Bd.named
  have hnm := (name_of_methodNamed Bd.named Bd.method).1
  have X0 : Stand p l e room_1 s m #[(.int p1), (.int p2)] below meth c s₁ [] 0 0 := Stand.of_body Bd
  have e0 : s₁.heap = h0 := by rw [← hh, Bd.state]; rfl
  have N0 := Fr.nil n0
  obtain ⟨F0, hF0⟩ : ∃ F : JFrame, F = entryFrame m #[(.int p1), (.int p2)] maxLocals := ⟨_, rfl⟩
  have pre0 : ∀ t, Steps p.tables e below (s₁.setTop F0) t → Steps p.tables e below (s₁.setTop (entryFrame m #[(.int p1), (.int p2)] maxLocals)) t := fun t k => hF0 ▸ k
  have go0 : Go p e below s₁ F0 s₁ (mkF m 0 #[vi p1, vi p2, .unset] []) := fun t k => castTop (hF0.trans (ef_0 m p1 p2)) k
  have go1 : Go p e below s₁ F0 s₁ (mkF m 6 #[vi p1, vi p2, vi (p2 &&& (127 : Int32))] [(.int p1)]) := by
    intro t kt
    refine go0 t ?_
    refine o_iloadN X0 hx (hb hby at_0) rfl ?_
    refine o_bipush X0 hx (hb hby at_1) (v := 127) rfl ?_
    refine o_iand X0 hx (hb hby at_3) ?_
    refine o_istoreN X0 hx (hb hby at_4) (L' := #[vi p1, vi p2, vi (p2 &&& (127 : Int32))]) rfl ?_
    refine o_iloadN X0 hx (hb hby at_5) rfl ?_
    exact kt
  obtain ⟨_, _, ⟨T2, L2, k2, n2⟩, -, X2, ⟨Lc2, hQ2, l2, y2, z2⟩, st2⟩ := Jvm.LawKit.callS X0 hx (y := y_0) hown (mvT hZ (own_w hw 0 rfl)) (mvT hZ (own_w hw 1 rfl)) (mvT hZ (own_w hw 2 rfl)) (mvT hZ (own_w hw 3 rfl)) (by decide) (backOf (W := 0) (rm1 l Z a0 hw [] p1 h0 n0 Z0 ) hZ (own_w hw 3 rfl) (own_w hw 2 rfl) (by decide) (by decide)) (g := (mkF m 6 #[vi p1, vi p2, vi (p2 &&& (127 : Int32))] [(.int p1)])) rfl (by rw [hml]; rfl) (argsL := [(.int p1)]) (rest := []) (lenOf pd0_0 rfl) rfl (by show 2 * 0 + _ ≤ _; exact Nat.le_of_eq rfl) (hb hby at_6) (fun _ _ => ⟨rfl, e0, (by decide : 0 + 0 ≤ _), (by decide : 0 + 0 ≤ _)⟩)
  dsimp only [Pt.U, Pt.locs, Pt.cells, Pt.slots] at X2 l2 y2 z2 st2 hQ2
  subst l2 y2 z2
  obtain ⟨rfl, Nq2, eh2⟩ := hQ2
  have N2 := Fr.app N0 Nq2
  have go3 : Go p e below s₁ F0 T2 (mkF m 9 #[vi p1, vi p2, vi (p2 &&& (127 : Int32))] [(.int (f1 p1))]) := fun t k => go1 t (st2 t k)
  have go4 : Go p e below s₁ F0 T2 (mkF m 10 #[vi p1, vi p2, vi (p2 &&& (127 : Int32))] [(.int p1), (.int (f1 p1))]) := by
    intro t kt
    refine go3 t ?_
    refine o_iloadN X2 hx (hb hby at_9) rfl ?_
    exact kt
  obtain ⟨_, _, ⟨T5, L5, k5, n5⟩, -, X5, ⟨Lc5, hQ5, l5, y5, z5⟩, st5⟩ := Jvm.LawKit.callS X2 hx (y := y_1) hown (mvT hZ (own_w hw 4 rfl)) (mvT hZ (own_w hw 5 rfl)) (mvT hZ (own_w hw 6 rfl)) (mvT hZ (own_w hw 7 rfl)) (by decide) (backOf (W := 1) (rm2 l Z a0 hw [] p1 h0 n0 Z0 ) hZ (own_w hw 7 rfl) (own_w hw 6 rfl) (by decide) (by decide)) (g := (mkF m 10 #[vi p1, vi p2, vi (p2 &&& (127 : Int32))] [(.int p1), (.int (f1 p1))])) rfl (by rw [hml]; rfl) (argsL := [(.int p1)]) (rest := [(.int (f1 p1))]) (lenOf pd0_0 rfl) rfl (by show 2 * 0 + _ ≤ _; exact Nat.le_of_eq rfl) (hb hby at_10) (fun _ _ => ⟨rfl, eh2, (by decide : 0 + 0 ≤ _), (by decide : 0 + 0 ≤ _)⟩)
  dsimp only [Pt.U, Pt.locs, Pt.cells, Pt.slots] at X5 l5 y5 z5 st5 hQ5
  subst l5 y5 z5
  obtain ⟨rfl, Nq5, eh5⟩ := hQ5
  have N5 := Fr.app N2 Nq5
  have go6 : Go p e below s₁ F0 T5 (mkF m 13 #[vi p1, vi p2, vi (p2 &&& (127 : Int32))] [(.int (f2 p1)), (.int (f1 p1))]) := fun t k => go4 t (st5 t k)
  have hd7 : (f1 p1) = (f2 p1) := own_law _
  have go8 : Go p e below s₁ F0 T5 (mkF m 17 #[vi p1, vi p2, vi (p2 &&& (127 : Int32))] [(.int (p2 &&& (127 : Int32)))]) := by
    intro t kt
    refine go6 t ?_
    refine o_icmpNo X5 hx (hb hby at_13) (teq hd7).2 ?_
    refine o_iloadN X5 hx (hb hby at_16) rfl ?_
    exact kt
  obtain ⟨_, _, ⟨T9, L9, k9, n9⟩, -, X9, ⟨Lc9, hQ9, l9, y9, z9⟩, st9⟩ := Jvm.LawKit.callS X5 hx (y := y_0) hown (mvT hZ (own_w hw 0 rfl)) (mvT hZ (own_w hw 1 rfl)) (mvT hZ (own_w hw 2 rfl)) (mvT hZ (own_w hw 3 rfl)) (by decide) (backOf (W := 0) (rm1 l Z a0 hw [] (p2 &&& (127 : Int32)) h0 n0 Z0 ) hZ (own_w hw 3 rfl) (own_w hw 2 rfl) (by decide) (by decide)) (g := (mkF m 17 #[vi p1, vi p2, vi (p2 &&& (127 : Int32))] [(.int (p2 &&& (127 : Int32)))])) rfl (by rw [hml]; rfl) (argsL := [(.int (p2 &&& (127 : Int32)))]) (rest := []) (lenOf pd0_0 rfl) rfl (by show 2 * 0 + _ ≤ _; exact Nat.le_of_eq rfl) (hb hby at_17) (fun _ _ => ⟨rfl, eh5, (by decide : 0 + 0 ≤ _), (by decide : 0 + 0 ≤ _)⟩)
  dsimp only [Pt.U, Pt.locs, Pt.cells, Pt.slots] at X9 l9 y9 z9 st9 hQ9
  subst l9 y9 z9
  obtain ⟨rfl, Nq9, eh9⟩ := hQ9
  have N9 := Fr.app N5 Nq9
  have go10 : Go p e below s₁ F0 T9 (mkF m 20 #[vi p1, vi p2, vi (p2 &&& (127 : Int32))] [(.int (f1 (p2 &&& (127 : Int32))))]) := fun t k => go8 t (st9 t k)
  have go11 : Go p e below s₁ F0 T9 (mkF m 21 #[vi p1, vi p2, vi (p2 &&& (127 : Int32))] [(.int (p2 &&& (127 : Int32))), (.int (f1 (p2 &&& (127 : Int32))))]) := by
    intro t kt
    refine go10 t ?_
    refine o_iloadN X9 hx (hb hby at_20) rfl ?_
    exact kt
  obtain ⟨_, _, ⟨T12, L12, k12, n12⟩, -, X12, ⟨Lc12, hQ12, l12, y12, z12⟩, st12⟩ := Jvm.LawKit.callS X9 hx (y := y_1) hown (mvT hZ (own_w hw 4 rfl)) (mvT hZ (own_w hw 5 rfl)) (mvT hZ (own_w hw 6 rfl)) (mvT hZ (own_w hw 7 rfl)) (by decide) (backOf (W := 1) (rm2 l Z a0 hw [] (p2 &&& (127 : Int32)) h0 n0 Z0 ) hZ (own_w hw 7 rfl) (own_w hw 6 rfl) (by decide) (by decide)) (g := (mkF m 21 #[vi p1, vi p2, vi (p2 &&& (127 : Int32))] [(.int (p2 &&& (127 : Int32))), (.int (f1 (p2 &&& (127 : Int32))))])) rfl (by rw [hml]; rfl) (argsL := [(.int (p2 &&& (127 : Int32)))]) (rest := [(.int (f1 (p2 &&& (127 : Int32))))]) (lenOf pd0_0 rfl) rfl (by show 2 * 0 + _ ≤ _; exact Nat.le_of_eq rfl) (hb hby at_21) (fun _ _ => ⟨rfl, eh9, (by decide : 0 + 0 ≤ _), (by decide : 0 + 0 ≤ _)⟩)
  dsimp only [Pt.U, Pt.locs, Pt.cells, Pt.slots] at X12 l12 y12 z12 st12 hQ12
  subst l12 y12 z12
  obtain ⟨rfl, Nq12, eh12⟩ := hQ12
  have N12 := Fr.app N9 Nq12
  have go13 : Go p e below s₁ F0 T12 (mkF m 24 #[vi p1, vi p2, vi (p2 &&& (127 : Int32))] [(.int (f2 (p2 &&& (127 : Int32)))), (.int (f1 (p2 &&& (127 : Int32))))]) := fun t k => go11 t (st12 t k)
  have hd14 : (f1 (p2 &&& (127 : Int32))) = (f2 (p2 &&& (127 : Int32))) := own_law _
  have go15 : Go p e below s₁ F0 T12 (mkF m 32 #[vi p1, vi p2, vi (p2 &&& (127 : Int32))] [(.int (1 : Int32))]) := by
    intro t kt
    refine go13 t ?_
    refine o_icmpNo X12 hx (hb hby at_24) (teq hd14).2 ?_
    refine o_iconst X12 hx (hb hby at_27) (v := 1) rfl ?_
    refine o_goto X12 hx (hb hby at_28) (pc' := 32) rfl (by decide) ?_
    exact kt
  obtain ⟨fs, hr, hrun, hended, hW, hsame⟩ := X12.leave (v := some (.int (1 : Int32))) (fun h => by rw [Bd.returns] at h; cases h)
  refine ⟨_, _, pre0 _ (go15 _ ?_), hrun, hended, _, _, rfl, ?_, ⟨_, rfl⟩, hW, hsame.mono (by decide) (by decide)⟩
  · skip
    exact retN X12 hx (t := .boolean) Bd.returns (by simp) (hb hby at_32) hr
  · show Q0 Z p1 p2 h0 n0 _ T12.heap _
    rw [eh12]
    exact ⟨rfl, N12⟩

set_option maxRecDepth 65536 in
set_option maxHeartbeats 40000000 in
theorem comes_1 {Post : Tables → Env → Array Value → State → Outcome → State → Prop} (hpost : ∀ tb e args s v u, (limb_1_1.after args s (.returned v) u = true ∧ limb_1_2.after args s (.returned v) u = true ∧ True) → FrameEnd s (.returned v) u (Jvm.fieldLocs frame_1_writes args s ++ Jvm.arrayLocs frame_1_arrays args s ++ Jvm.staticLocs frame_1_statics s) 0 0 → Post tb e args s (.returned v) u) :
    ArmFor flags0 classFile x code maxLocals ret World_1 tables_1 room_1 Calls_1 rest_1 Pre_1 Post := by
  intro l hfl _ _ p e ha hc hk s m args below hf hA hF happ hP
  obtain ⟨hcalls, hrest, hpre⟩ := hP
  obtain ⟨-, -, -, hnamed, -, -, -, hat⟩ := (Spec.applies_iff hf).mp happ
  obtain ⟨hg, hn⟩ := and_e (Cond.before_iff.mp (show (Jvm.Cond.and given_1 narrow_1).before args s = true from hpre))
  obtain ⟨g1, g2⟩ := and_e hg
  obtain ⟨g3, g4⟩ := and_e g2
  obtain ⟨w0, w1, rfl⟩ : ∃ w0 w1 : Value, args = #[w0, w1] := by
    have hs : args.size = 2 := by simpa [Cond.value, given_1] using g1
    obtain ⟨L⟩ := args
    match L, hs with
    | [w0, w1], _ => exact ⟨w0, w1, rfl⟩
  have hw := fun d (hd : d ∈ tables_1) => atoms_spec (ws := Jvm.Cond.code x code maxLocals ret :: tables_1) hat d (List.mem_cons_of_mem _ hd)
  have hfit : Fit s := fun {y c} hc i hi => by
    obtain ⟨ha, rfl⟩ := Array.getElem?_eq_some_iff.mp hc
    have q := List.all_eq_true.mp ((Array.all_eq_true_iff_forall_mem.mp hF) _ (Array.getElem_mem ha)) i (List.mem_range.mpr hi)
    simpa [Array.getElem?_eq_getElem hi] using q
  obtain ⟨i0, ei0⟩ := is_v g3
  obtain rfl : w0 = (.int i0) := Option.some.inj ei0
  obtain ⟨i1, ei1⟩ := is_v g4
  obtain rfl : w1 = (.int i1) := Option.some.inj ei1
  obtain ⟨n, o, h1, h2, h3, _, L, rfl, ⟨rfl, N⟩, hq⟩ := rm0 l s _ hw tables_1 i0 i1  s.heap s.heap.size (Nat.le_refl _)  p e ha hc hk s m _ below hf ((Spec.applies_iff_loose hf).mp happ).1 ⟨rfl, State.Warmed39.refl s, rfl⟩ trivial
  refine ⟨n, _, h1, h2, h3, hpost _ _ _ _ _ _ ⟨Cond.after_iff.mpr rfl, Cond.after_iff.mpr (eq_i res_at (Term.int_eval (1)) rfl), trivial⟩ ⟨hq.1, hq.2.1, (hq.2.2.sift fun y hy => Or.inr (N y hy)).mono (by decide) (by decide)⟩⟩
theorem main_1_1 : Claimed_1_1 := comes_1 fun _ _ _ _ _ _ h hF => ⟨h.1, hF⟩
theorem main_1_2 : Claimed_1_2 := comes_1 fun _ _ _ _ _ _ h hF => ⟨h.2.1, hF⟩
end Jvm.Pilot.@@N@@
namespace Jvm.Pilot.@@N@@
open Jvm Jvm.ClassFile Sem Op Lib Jvm.Free Jvm.Stand Jvm.Pilot.@@N@@.Jvm.D
/-! MADE BY PROGRAM (witnessworld.py) out of the Statement's table words and the real class files: 9 classes; the members and pool entries that the words name. The judged class is class 1, her method 1. -/
namespace start1
open Jvm.ClassFile
def u (s : String) : CpInfo := .utf8 (stringToUtf16 s)
/-- a pool by its gaps: so many unusable entries, then the entry; so many at the end -/
def gap : Nat → List CpInfo → List CpInfo
  | 0, r => r
  | n + 1, r => .unusable :: gap n r
def poolList (es : List (Nat × CpInfo)) (last : Nat) : List CpInfo := es.foldr (fun e r => gap e.1 (e.2 :: r)) (gap last [])
def pool (es : List (Nat × CpInfo)) (last : Nat) : Array CpInfo := ⟨poolList es last⟩
def fileOf (pool : Array CpInfo) (this : Nat) (attrs : Array Attribute := #[]) (ms : Array MethodInfo := #[]) (fl : Nat := 33) (sup : Nat := 0) (ifs : Array Nat := #[]) (fds : Array FieldInfo := #[]) : ClassFile where
  minorVersion := 0
  majorVersion := 65
  constantPool := pool
  accessFlags := fl
  thisClass := this
  superClass := sup
  interfaces := ifs
  fields := fds
  methods := ms
  attributes := attrs
def plain (name : String) (sup : Option ClassId) : Class where
  name := name
  kind := .ordinary
  loader := none
  accessFlags := 33
  super := sup
  interfaces := #[]
  cf := none
  fields := #[]
  methods := #[]
  instanceTypes := #[]
  staticTypes := #[]
  resolved := #[]
  callSites := []
  init := .initialized
  statics := none
  mirror := none

def pool0 : Array CpInfo := pool [(5, u "<init>"), (0, u "()V"), (1, .class_ 10), (1, u "java/lang/Object")] 113

def k0m0 : Method := { name := "<init>", desc := "()V", sig := { parameters := [], returnType := none }, accessFlags := 1, code := none }
/-- java/lang/Object -/
def k0 : Class := { plain "java/lang/Object" none with
  accessFlags := 33
  interfaces := #[]
  cf := some (fileOf pool0 8 #[] #[{ accessFlags := 1, nameIndex := 5, descriptorIndex := 6, attributes := #[] }] 33 0 #[] #[])
  fields := #[]
  methods := #[k0m0]
  instanceTypes := #[]
  staticTypes := #[]
  resolved := Array.replicate 124 none
  statics := none }

def pool1 : Array CpInfo := pool [(2, .class_ 4), (1, u "java/lang/Object"), (0, u "<init>"), (0, u "()V"), (0, .methodref 8 9), (0, .class_ 10), (0, .nameAndType 11 12), (0, u "com/example/tripleweave/tripleweave/rdf/Iris"), (0, u "isIriChar"), (0, u "(I)Z"), (0, .methodref 14 15), (0, .class_ 16), (0, .nameAndType 17 12), (0, u "com/example/tripleweave/tripleweave/rdf/IrisIsIriCharPinLaw"), (0, u "expected"), (2, u "law"), (0, u "(II)Z")] 3

def k1m0 : Method := { name := "<init>", desc := "()V", sig := { parameters := [], returnType := none }, accessFlags := 1, code := none }
def k1c1 : Code := { maxStack := 2, maxLocals := 3, code := code, exceptionTable := #[], attributes := #[] }
def k1m1 : Method := { name := "law", desc := "(II)Z", sig := { parameters := [.int, .int], returnType := some .boolean }, accessFlags := 9, code := some k1c1 }
def k1c2 : Code := { maxStack := 2, maxLocals := 1, code := method_3_code, exceptionTable := #[], attributes := #[] }
def k1m2 : Method := { name := "expected", desc := "(I)Z", sig := { parameters := [.int], returnType := some .boolean }, accessFlags := 10, code := some k1c2 }
/-- com/example/tripleweave/tripleweave/rdf/IrisIsIriCharPinLaw -/
def k1 : Class := { plain "com/example/tripleweave/tripleweave/rdf/IrisIsIriCharPinLaw" (some 0) with
  accessFlags := 49
  interfaces := #[]
  cf := some (fileOf pool1 14 #[] #[{ accessFlags := 1, nameIndex := 5, descriptorIndex := 6, attributes := #[] }, { accessFlags := 9, nameIndex := 20, descriptorIndex := 21, attributes := #[] }, { accessFlags := 10, nameIndex := 17, descriptorIndex := 12, attributes := #[] }] 49 2 #[] #[])
  fields := #[]
  methods := #[k1m0, k1m1, k1m2]
  instanceTypes := #[]
  staticTypes := #[]
  resolved := Array.replicate 25 none
  statics := none }

def pool2 : Array CpInfo := pool [(2, .class_ 4), (1, u "java/lang/Object"), (0, u "<init>"), (0, u "()V"), (20, .class_ 29), (1, u "com/example/tripleweave/tripleweave/rdf/Iris"), (0, u "SCHEME"), (0, u "Ljava/util/regex/Pattern;"), (47, u "isIriChar"), (0, u "(I)Z"), (36, .class_ 119), (1, u "com/example/tripleweave/tripleweave/rdf/Iris$Reference"), (107, u "PARTS")] 37

def k2m0 : Method := { name := "<init>", desc := "()V", sig := { parameters := [], returnType := none }, accessFlags := 2, code := none }
def k2c1 : Code := { maxStack := 2, maxLocals := 1, code := prog_9_method_4_code, exceptionTable := #[], attributes := #[] }
def k2m1 : Method := { name := "isIriChar", desc := "(I)Z", sig := { parameters := [.int], returnType := some .boolean }, accessFlags := 8, code := some k2c1 }
/-- com/example/tripleweave/tripleweave/rdf/Iris -/
def k2 : Class := { plain "com/example/tripleweave/tripleweave/rdf/Iris" (some 0) with
  accessFlags := 49
  interfaces := #[]
  cf := some (fileOf pool2 27 #[.nestMembers #[117]] #[{ accessFlags := 2, nameIndex := 5, descriptorIndex := 6, attributes := #[] }, { accessFlags := 8, nameIndex := 79, descriptorIndex := 80, attributes := #[] }] 49 2 #[] #[{ accessFlags := 26, nameIndex := 227, descriptorIndex := 31, attributes := #[] }, { accessFlags := 26, nameIndex := 30, descriptorIndex := 31, attributes := #[] }])
  fields := #[{ name := "PARTS", type := (.object "java/util/regex/Pattern"), accessFlags := 26, slot := 0, constantValue := 0 }, { name := "SCHEME", type := (.object "java/util/regex/Pattern"), accessFlags := 26, slot := 1, constantValue := 0 }]
  methods := #[k2m0, k2m1]
  instanceTypes := #[]
  staticTypes := #[(.object "java/util/regex/Pattern"), (.object "java/util/regex/Pattern")]
  resolved := Array.replicate 265 none
  statics := none }

def pool3 : Array CpInfo := pool [(1, u "java/lang/Cloneable"), (0, .class_ 1), (0, u "java/lang/Object"), (0, .class_ 3)] 3

/-- java/lang/Cloneable -/
def k3 : Class := { plain "java/lang/Cloneable" (some 0) with
  accessFlags := 1537
  interfaces := #[]
  cf := some (fileOf pool3 2 #[] #[] 1537 4 #[] #[])
  fields := #[]
  methods := #[]
  instanceTypes := #[]
  staticTypes := #[]
  resolved := Array.replicate 8 none
  statics := none }

def pool4 : Array CpInfo := pool [(1, u "java/io/Serializable"), (0, .class_ 1), (0, u "java/lang/Object"), (0, .class_ 3)] 3

/-- java/io/Serializable -/
def k4 : Class := { plain "java/io/Serializable" (some 0) with
  accessFlags := 1537
  interfaces := #[]
  cf := some (fileOf pool4 2 #[] #[] 1537 4 #[] #[])
  fields := #[]
  methods := #[]
  instanceTypes := #[]
  staticTypes := #[]
  resolved := Array.replicate 8 none
  statics := none }

/-- the primitive byte -/
def k5 : Class := { plain "byte" none with kind := .primitive 'B', accessFlags := 0x411 }
/-- [B -/
def k6 : Class := { plain "[B" (some 0) with kind := .array 5 .byte, interfaces := #[3, 4], accessFlags := 1041 }

/-- the primitive int -/
def k7 : Class := { plain "int" none with kind := .primitive 'I', accessFlags := 0x411 }
/-- [I -/
def k8 : Class := { plain "[I" (some 0) with kind := .array 7 .int, interfaces := #[3, 4], accessFlags := 1041 }

def heap : Heap := #[]
def classes : Array Class := #[k0, k1, k2, k3, k4, k5, k6, k7, k8]
def interned : List (Array UInt16 × Addr) := []
def slotsUsed : Nat := 0
def theMethod : MethodId := ⟨1, 1⟩
def args0 : Array Value := #[.int 5, .int 5]
def aboutOver (below : List Frame) : State where
  vm := { classes := classes, interned := interned.toArray }
  heap := heap
  slotsUsed := slotsUsed
  threads := #[{ frames := .invoking theMethod args0 :: below }]
def below0 : List Frame := [.native { method := ⟨0, 0⟩, args := #[] }]
def about1 : State := aboutOver below0
def p0 : Program := .bare "" "" ""
def e0 : Env := launch0.env 0 0 0
theorem w_frames : about1.frames = Frame.invoking theMethod args0 :: below0 := rfl
set_option maxRecDepth 65536 in
theorem w_args : argsFit about1.vm theMethod args0 = true := by decide +kernel
set_option maxRecDepth 65536 in
theorem w_heap : heapFits about1 = true := by decide +kernel
set_option maxRecDepth 65536 in
theorem w_runnable : about1.curStatus? = some .runnable := by decide +kernel
set_option maxRecDepth 65536 in
theorem w_alone : about1.alone = true := by decide +kernel
set_option maxRecDepth 65536 in
theorem w_named : about1.methodNamed? x = some theMethod := by decide +kernel
set_option maxRecDepth 65536 in
theorem w_hears : about1.hears theMethod below0 = true := by decide +kernel
set_option maxRecDepth 65536 in
theorem w_ripe : about1.ripe theMethod args0 below0 = true := by decide +kernel
theorem w_running : about1.status = .running := rfl
set_option maxRecDepth 65536 in
theorem w_room : about1.hasRoom e0.platform room_1 = true :=
  launch0.hasRoom_least _ room_1 (by decide +kernel) (by decide +kernel) (by decide +kernel) (by decide +kernel) (by decide +kernel) (by decide +kernel)
theorem allAtoms_all (ts : List Jvm.Cond) (a : Array Jvm.Value) (st : Jvm.State) : (allAtoms ts).before a st = ts.all (fun c => c.before a st) := by
  induction ts with
  | nil => rfl
  | cons c t ih =>
    show (Jvm.Cond.and c (allAtoms t)).before a st = _
    rw [Jvm.Cond.before_and, ih, List.all_cons]
def words1 : List Jvm.Cond := Jvm.Cond.code x code maxLocals ret :: tables_1
/-- a 'code' word, met by the world's own term for the bytes: nothing is compared byte by byte -/
theorem code_word {y : MethodName} {bytes : ByteArray} {mx : Nat} {rt : Option FieldType} {a : Array Value} {s : State} {m : MethodId} {meth : Method} {c : Code} (h1 : s.methodNamed? y = some m) (h2 : s.vm.method? m = some meth) (h3 : meth.code = some c) (h4 : c.code = bytes)
    (h5 : (c.maxLocals == mx && c.exceptionTable.isEmpty && decide (c.maxStack ≤ mostOperands) && decide (meth.sig.returnType = rt) && !meth.locks && decide (parseMethodDescriptor y.desc = some meth.sig)) = true) : (Jvm.Cond.code y bytes mx rt).before a s = true := by
  simp only [Bool.and_eq_true, beq_iff_eq, Bool.not_eq_true', decide_eq_true_eq] at h5
  obtain ⟨⟨⟨⟨⟨g1, g2⟩, g3⟩, g4⟩, g5⟩, g6⟩ := h5
  simp [Cond.before, Cond.holds, Cond.value, h1, h2, h3, h4, g1, g2, g3, g4, g5, g6]
def isCode : Jvm.Cond → Bool
  | .code _ _ _ _ => true
  | _ => false
theorem all_split {L : List Jvm.Cond} {P : Jvm.Cond → Bool} (h1 : L.all (fun c => isCode c || P c) = true) (h2 : ∀ c ∈ L.filter isCode, P c = true) : L.all P = true := by
  refine List.all_eq_true.mpr fun c hc => ?_
  have h := List.all_eq_true.mp h1 c hc
  rcases Bool.eq_false_or_eq_true (isCode c) with hi | hi
  · exact h2 c (List.mem_filter.mpr ⟨hc, hi⟩)
  · simpa [hi] using h
set_option maxRecDepth 65536 in
theorem w_c0 : (Jvm.Cond.code x code maxLocals ret).before args0 about1 = true := code_word (m := ⟨1, 1⟩) (meth := k1m1) (c := k1c1) (by decide +kernel) rfl rfl rfl (by decide +kernel)
set_option maxRecDepth 65536 in
theorem w_c1 : (Jvm.Cond.code ({ cls := "com/example/tripleweave/tripleweave/rdf/Iris", name := "isIriChar", desc := "(I)Z" } : Jvm.MethodName) prog_9_method_4_code (1 : Nat) (Option.some Jvm.ClassFile.FieldType.boolean)).before args0 about1 = true := code_word (m := ⟨2, 1⟩) (meth := k2m1) (c := k2c1) (by decide +kernel) rfl rfl rfl (by decide +kernel)
set_option maxRecDepth 65536 in
theorem w_c2 : (Jvm.Cond.code ({ cls := "com/example/tripleweave/tripleweave/rdf/IrisIsIriCharPinLaw", name := "expected", desc := "(I)Z" } : Jvm.MethodName) method_3_code (1 : Nat) (Option.some Jvm.ClassFile.FieldType.boolean)).before args0 about1 = true := code_word (m := ⟨1, 2⟩) (meth := k1m2) (c := k1c2) (by decide +kernel) rfl rfl rfl (by decide +kernel)
def codes1 : List Jvm.Cond := [Jvm.Cond.code x code maxLocals ret, Jvm.Cond.code ({ cls := "com/example/tripleweave/tripleweave/rdf/Iris", name := "isIriChar", desc := "(I)Z" } : Jvm.MethodName) prog_9_method_4_code (1 : Nat) (Option.some Jvm.ClassFile.FieldType.boolean), Jvm.Cond.code ({ cls := "com/example/tripleweave/tripleweave/rdf/IrisIsIriCharPinLaw", name := "expected", desc := "(I)Z" } : Jvm.MethodName) method_3_code (1 : Nat) (Option.some Jvm.ClassFile.FieldType.boolean)]
set_option maxRecDepth 65536 in
theorem codes_eq : words1.filter isCode = codes1 := rfl
theorem w_codes : ∀ c ∈ words1.filter isCode, c.before args0 about1 = true := by
  rw [codes_eq]
  intro c hc
  simp only [codes1, List.mem_cons, List.not_mem_nil, or_false] at hc
  rcases hc with rfl | rfl | rfl
  · exact w_c0
  · exact w_c1
  · exact w_c2
set_option maxRecDepth 65536 in
theorem w_t1 : words1.all (fun c => isCode c || c.before args0 about1) = true := by decide +kernel
theorem w_tables : (allAtoms (Jvm.Cond.code x code maxLocals ret :: tables_1)).before args0 about1 = true := by
  rw [allAtoms_all]
  show words1.all (fun c => c.before args0 about1) = true
  refine all_split ?_ w_codes
  rw [w_t1]
set_option maxRecDepth 65536 in
theorem w_case : (Jvm.Cond.and given_1 narrow_1).before args0 about1 = true := by decide +kernel
theorem w_applies : (headSpec (Jvm.Cond.code x code maxLocals ret :: tables_1) room_1).applies x e0.platform about1 = true :=
  (Spec.applies_iff w_frames).mpr ⟨w_running, w_runnable, w_alone, w_named, w_hears, w_ripe, w_room, w_tables⟩
theorem atStart : AtStart classFile x code maxLocals ret World_1 tables_1 room_1 Calls_1 rest_1 Pre_1 launch0 p0 e0 about1 theMethod args0 below0 :=
  ⟨lists_1, trivial, launch0.admits_env _ _ _, launch0.least_env, fairChoices_fair.cas, fairChoices_fair.clock, w_frames, w_args, w_heap, w_applies, trivial, trivial, w_case⟩
end start1
theorem witness_1 : WitnessClaimed_1 := ⟨start1.p0, start1.e0, start1.about1, start1.theMethod, start1.args0, start1.below0, start1.atStart⟩
end Jvm.Pilot.@@N@@
