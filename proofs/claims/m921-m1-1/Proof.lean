import JvmDerived
import JvmDerived.Pilot.@@N@@Statement
import JvmDerived.Pilot.@@N@@Code
set_option linter.unusedVariables false
set_option linter.unusedSimpArgs false

namespace Jvm.RoadKit
open Sem ClassFile Op Lib Jvm.Stand Jvm.Free Jvm.LawKit
section New
variable {p : Program} {l : Launch} {e : Env} {R : Room} {s : State} {m : MethodId} {args : Array Value} {below : List Frame} {meth : Method} {c : Code} {T : State} {locs : List Loc} {cells slots : Nat}
theorem retI (X : Stand p l e R s m args below meth c T locs cells slots) (hx : p.tables.exec = Jvm.exec) {pc : Nat} {Ls : Array Slot} {z : Int32} {rest : List Value} (hret : meth.sig.returnType = some .int) (hd : decode c.code pc = .ok (.ireturn, 1)) {fs : List Frame}
    (hl : ∀ (f : JFrame) (acts : List Action), f.method = m → f.locked = none → f.entered = [] → (doReturn e (T.setTop f) acts (some (.int z))).1 = T.setFrames fs) : Steps p.tables e below (T.setTop (mkF m pc Ls (.int z :: rest))) (T.setFrames fs) := by
  have hm' : T.vm.method? m = some meth := X.method'
  have hn : narrow .int (.int z) = .int z := rfl
  show Steps p.tables e below (T.setTop { method := m, pc := pc, locals := Ls, stack := _ :: rest, locked := none }) _
  jvm_step X.here [X.here.top, hx, hd, hm', hret, hn]
  first | (intro acts; rw [hl _ acts rfl rfl rfl]) | rw [hl _ _ rfl rfl rfl]
  exact Steps.refl _
end New
end Jvm.RoadKit
namespace Jvm.Pilot.@@N@@
open Jvm Jvm.ClassFile Sem Op Lib Jvm.Free Jvm.Stand Jvm.LawKit Jvm.RoadKit Bundle Jvm.Pilot.@@N@@.Jvm.D
abbrev c_0 : String := "com/example/ledgerline/ledgerline/log/Retention"
abbrev y_0 : MethodName := ⟨"java/lang/Math", "max", "(JJ)J"⟩
abbrev y_1 : MethodName := ⟨"java/lang/Record", "<init>", "()V"⟩
abbrev y_2 : MethodName := ⟨"com/example/ledgerline/ledgerline/log/Retention", "<init>", "(JJJ)V"⟩
abbrev y_3 : MethodName := ⟨"com/example/ledgerline/ledgerline/log/Retention", "expired", "(JJ)Z"⟩
abbrev y_4 : MethodName := ⟨"com/example/ledgerline/ledgerline/log/RetentionExpiredPinLaw", "reference", "(JJJ)Z"⟩
abbrev own_zl (n : Nat) : List Value := List.replicate n (.long (0 : Int64))
abbrev own_zi (n : Nat) : List Value := List.replicate n (.int (0 : Int32))
abbrev own_zr (n : Nat) : List Value := List.replicate n .null
abbrev vi (x : Int32) : Slot := .val (.int x)
abbrev vj (x : Int64) : Slot := .val (.long x)
abbrev vr (x : Addr) : Slot := .val (.ref x)
section Steps
variable {p : Program} {l : Launch} {e : Env} {R : Room} {s : State} {m : MethodId} {args : Array Value} {below : List Frame} {meth : Method} {c : Code} {T : State} {locs : List Loc} {cells slots : Nat} {pc pc' : Nat} {Ls L' : Array Slot} {S : List Value} {t : State} {Z : State} {h : Heap} {a : Addr} {cl : Cell}
abbrev Go (p : Program) (e : Env) (below : List Frame) (T0 : State) (g0 : JFrame) (T : State) (g : JFrame) : Prop := ∀ t, Steps p.tables e below (T.setTop g) t → Steps p.tables e below (T0.setTop g0) t
theorem own_w {Z : State} {a0 : Array Value} (hw : ∀ d ∈ tables_1, d.before a0 Z = true) (k : Nat) {d : Jvm.Cond} (h : tables_1[k]? = some d) : d.before a0 Z = true := hw _ (List.mem_of_getElem? h)
theorem o_iloadN (X : Stand p l e R s m args below meth c T locs cells slots) (hx : p.tables.exec = Jvm.exec) {i : Fin 4} {v : Int32} (hd : decode c.code pc = .ok (.iload_n i, 1)) (hl : Ls[i.val]? = some (.val (.int v))) (k : Steps p.tables e below (T.setTop (mkF m (pc + 1) Ls (.int v :: S))) t) : Steps p.tables e below (T.setTop (mkF m pc Ls (S))) t := XS.iloadN X.here hx rfl hd hl k
theorem o_iload (X : Stand p l e R s m args below meth c T locs cells slots) (hx : p.tables.exec = Jvm.exec) {i : Nat} {v : Int32} (hd : decode c.code pc = .ok (.iload i, 2)) (hl : Ls[i]? = some (.val (.int v))) (k : Steps p.tables e below (T.setTop (mkF m (pc + 2) Ls (.int v :: S))) t) : Steps p.tables e below (T.setTop (mkF m pc Ls (S))) t := XS.iload X.here hx rfl hd hl k
theorem o_lloadN (X : Stand p l e R s m args below meth c T locs cells slots) (hx : p.tables.exec = Jvm.exec) {i : Fin 4} {v : Int64} (hd : decode c.code pc = .ok (.lload_n i, 1)) (hl : Ls[i.val]? = some (.val (.long v))) (k : Steps p.tables e below (T.setTop (mkF m (pc + 1) Ls (.long v :: S))) t) : Steps p.tables e below (T.setTop (mkF m pc Ls (S))) t := XS.lloadN X.here hx rfl hd hl k
theorem o_lload (X : Stand p l e R s m args below meth c T locs cells slots) (hx : p.tables.exec = Jvm.exec) {i : Nat} {v : Int64} (hd : decode c.code pc = .ok (.lload i, 2)) (hl : Ls[i]? = some (.val (.long v))) (k : Steps p.tables e below (T.setTop (mkF m (pc + 2) Ls (.long v :: S))) t) : Steps p.tables e below (T.setTop (mkF m pc Ls (S))) t := XS.lload X.here hx rfl hd hl k
theorem o_aloadN (X : Stand p l e R s m args below meth c T locs cells slots) (hx : p.tables.exec = Jvm.exec) {i : Fin 4} {v : Value} (hd : decode c.code pc = .ok (.aload_n i, 1)) (hl : Ls[i.val]? = some (.val v)) (hv : v.isRef = true) (k : Steps p.tables e below (T.setTop (mkF m (pc + 1) Ls (v :: S))) t) : Steps p.tables e below (T.setTop (mkF m pc Ls (S))) t := XS.aloadN X.here hx rfl hd hl hv k
theorem o_aload (X : Stand p l e R s m args below meth c T locs cells slots) (hx : p.tables.exec = Jvm.exec) {i : Nat} {v : Value} (hd : decode c.code pc = .ok (.aload i, 2)) (hl : Ls[i]? = some (.val v)) (hv : v.isRef = true) (k : Steps p.tables e below (T.setTop (mkF m (pc + 2) Ls (v :: S))) t) : Steps p.tables e below (T.setTop (mkF m pc Ls (S))) t := XS.aload X.here hx rfl hd hl hv k
theorem o_istore (X : Stand p l e R s m args below meth c T locs cells slots) (hx : p.tables.exec = Jvm.exec) {i : Nat} {v : Int32} (hd : decode c.code pc = .ok (.istore i, 2)) (hl : storeLocals Ls i (.int v) = some L') (k : Steps p.tables e below (T.setTop (mkF m (pc + 2) L' (S))) t) : Steps p.tables e below (T.setTop (mkF m pc Ls (.int v :: S))) t := XS.istore X.here hx rfl hd rfl hl k
theorem o_lstore (X : Stand p l e R s m args below meth c T locs cells slots) (hx : p.tables.exec = Jvm.exec) {i : Nat} {v : Int64} (hd : decode c.code pc = .ok (.lstore i, 2)) (hl : storeLocals Ls i (.long v) = some L') (k : Steps p.tables e below (T.setTop (mkF m (pc + 2) L' (S))) t) : Steps p.tables e below (T.setTop (mkF m pc Ls (.long v :: S))) t := XS.lstore X.here hx rfl hd rfl hl k
theorem o_astore (X : Stand p l e R s m args below meth c T locs cells slots) (hx : p.tables.exec = Jvm.exec) {i : Nat} {v : Value} (hd : decode c.code pc = .ok (.astore i, 2)) (hv : v.isRef = true) (hl : storeLocals Ls i v = some L') (k : Steps p.tables e below (T.setTop (mkF m (pc + 2) L' (S))) t) : Steps p.tables e below (T.setTop (mkF m pc Ls (v :: S))) t := XS.astore X.here hx rfl hd rfl hv hl k
theorem o_iconst (X : Stand p l e R s m args below meth c T locs cells slots) (hx : p.tables.exec = Jvm.exec) {i : Int} {v : Int32} (hd : decode c.code pc = .ok (.iconst i, 1)) (hv : v = Int32.ofInt i) (k : Steps p.tables e below (T.setTop (mkF m (pc + 1) Ls (.int v :: S))) t) : Steps p.tables e below (T.setTop (mkF m pc Ls (S))) t := XS.iconst X.here hx rfl hd (hv ▸ k)
theorem o_lconst (X : Stand p l e R s m args below meth c T locs cells slots) (hx : p.tables.exec = Jvm.exec) {i : Fin 2} {v : Int64} (hd : decode c.code pc = .ok (.lconst i, 1)) (hv : v = Int64.ofNat i) (k : Steps p.tables e below (T.setTop (mkF m (pc + 1) Ls (.long v :: S))) t) : Steps p.tables e below (T.setTop (mkF m pc Ls (S))) t := XS.lconst X.here hx rfl hd (hv ▸ k)
theorem o_ldc2 (X : Stand p l e R s m args below meth c T locs cells slots) (hx : p.tables.exec = Jvm.exec) {own : String} {i : Nat} {v : Int64} (ho : s.vm.findClass own = some m.cls) (w : (Cond.constantLong own i v).before args s = true) (hd : decode c.code pc = .ok (.ldc2_w i, 3))  (k : Steps p.tables e below (T.setTop (mkF m (pc + 3) Ls (.long v :: S))) t) : Steps p.tables e below (T.setTop (mkF m pc Ls (S))) t := X.ldc2Long hx ho w (g := mkF m pc Ls S) rfl hd _ k
theorem o_lsub (X : Stand p l e R s m args below meth c T locs cells slots) (hx : p.tables.exec = Jvm.exec) {x y : Int64} (hd : decode c.code pc = .ok (.lsub, 1))  (k : Steps p.tables e below (T.setTop (mkF m (pc + 1) Ls (.long (x - y) :: S))) t) : Steps p.tables e below (T.setTop (mkF m pc Ls (.long y :: .long x :: S))) t := XS.lsub X.here hx rfl hd rfl k
theorem o_iand (X : Stand p l e R s m args below meth c T locs cells slots) (hx : p.tables.exec = Jvm.exec) {x y : Int32} (hd : decode c.code pc = .ok (.iand, 1))  (k : Steps p.tables e below (T.setTop (mkF m (pc + 1) Ls (.int (x &&& y) :: S))) t) : Steps p.tables e below (T.setTop (mkF m pc Ls (.int y :: .int x :: S))) t := XS.iand X.here hx rfl hd rfl k
theorem o_land (X : Stand p l e R s m args below meth c T locs cells slots) (hx : p.tables.exec = Jvm.exec) {x y : Int64} (hd : decode c.code pc = .ok (.land, 1))  (k : Steps p.tables e below (T.setTop (mkF m (pc + 1) Ls (.long (x &&& y) :: S))) t) : Steps p.tables e below (T.setTop (mkF m pc Ls (.long y :: .long x :: S))) t := XS.land X.here hx rfl hd rfl k
theorem o_lcmp (X : Stand p l e R s m args below meth c T locs cells slots) (hx : p.tables.exec = Jvm.exec) {x y : Int64} (hd : decode c.code pc = .ok (.lcmp, 1))  (k : Steps p.tables e below (T.setTop (mkF m (pc + 1) Ls (.int (lcmpW x y) :: S))) t) : Steps p.tables e below (T.setTop (mkF m pc Ls (.long y :: .long x :: S))) t := XS.lcmp X.here hx rfl hd rfl k
theorem o_dup (X : Stand p l e R s m args below meth c T locs cells slots) (hx : p.tables.exec = Jvm.exec) {x : Value} (hd : decode c.code pc = .ok (.dup, 1)) (hc : x.category = 1) (k : Steps p.tables e below (T.setTop (mkF m (pc + 1) Ls (x :: x :: S))) t) : Steps p.tables e below (T.setTop (mkF m pc Ls (x :: S))) t := XS.dup X.here hx rfl hd rfl hc k
theorem o_goto (X : Stand p l e R s m args below meth c T locs cells slots) (hx : p.tables.exec = Jvm.exec) {o : Int} (hd : decode c.code pc = .ok (.goto o, 3)) (hp : ((pc : Int) + o).toNat = pc') (ho : 0 ≤ (pc : Int) + o) (k : Steps p.tables e below (T.setTop (mkF m (pc') Ls (S))) t) : Steps p.tables e below (T.setTop (mkF m pc Ls (S))) t := XS.goto X.here hx rfl rfl hd ho hp k
theorem o_ifYes (X : Stand p l e R s m args below meth c T locs cells slots) (hx : p.tables.exec = Jvm.exec) {cd : ClassFile.Cond} {x : Int32} {o : Int} (hd : decode c.code pc = .ok (.ifCond cd o, 3)) (hp : ((pc : Int) + o).toNat = pc') (ho : 0 ≤ (pc : Int) + o) (hc : ifCond.holds cd x = true) (k : Steps p.tables e below (T.setTop (mkF m (pc') Ls (S))) t) : Steps p.tables e below (T.setTop (mkF m pc Ls (.int x :: S))) t := XS.ifYes X.here hx rfl rfl hd rfl hc ho hp k
theorem o_ifNo (X : Stand p l e R s m args below meth c T locs cells slots) (hx : p.tables.exec = Jvm.exec) {cd : ClassFile.Cond} {x : Int32} {o : Int} (hd : decode c.code pc = .ok (.ifCond cd o, 3)) (hc : ifCond.holds cd x = false) (k : Steps p.tables e below (T.setTop (mkF m (pc + 3) Ls (S))) t) : Steps p.tables e below (T.setTop (mkF m pc Ls (.int x :: S))) t := XS.ifNo X.here hx rfl hd rfl hc k
theorem o_icmpNo (X : Stand p l e R s m args below meth c T locs cells slots) (hx : p.tables.exec = Jvm.exec) {cd : ClassFile.Cond} {x y : Int32} {o : Int} (hd : decode c.code pc = .ok (.if_icmp cd o, 3)) (hc : if_icmp.holds cd x y = false) (k : Steps p.tables e below (T.setTop (mkF m (pc + 3) Ls (S))) t) : Steps p.tables e below (T.setTop (mkF m pc Ls (.int y :: .int x :: S))) t := XS.icmpNo X.here hx rfl hd rfl hc k
end Steps
theorem d1_0 : decode jdk_29_method_66_code 0 = .ok (.lload_n 0, 1) := by decide +kernel
theorem d1_1 : decode jdk_29_method_66_code 1 = .ok (.lload_n 2, 1) := by decide +kernel
theorem d1_2 : decode jdk_29_method_66_code 2 = .ok (.lcmp, 1) := by decide +kernel
theorem d1_3 : decode jdk_29_method_66_code 3 = .ok (.ifCond .lt 7, 3) := by decide +kernel
theorem d1_6 : decode jdk_29_method_66_code 6 = .ok (.lload_n 0, 1) := by decide +kernel
theorem d1_7 : decode jdk_29_method_66_code 7 = .ok (.goto 4, 3) := by decide +kernel
theorem d1_10 : decode jdk_29_method_66_code 10 = .ok (.lload_n 2, 1) := by decide +kernel
theorem d1_11 : decode jdk_29_method_66_code 11 = .ok (.lreturn, 1) := by decide +kernel
theorem ef_1 (m : MethodId) (x0 : Int64) (x1 : Int64) : entryFrame m #[(.long x0), (.long x1)] 4 = mkF m 0 #[vj x0, .second, vj x1, .second] [] := by first | (simp [entryFrame, mkF, argsToLocals, Value.category]; done) | rfl
def f1 (q1 : Int64) (q2 : Int64) : Int64 := (if q1 < q2 then q2 else q1)
def Q1 (Z : State) (q1 : Int64) (q2 : Int64) (h0 : Heap) (n0 : Nat) (v : Option Value) (h : Heap) (L : List Loc) : Prop := v = some (.long (f1 q1 q2)) ∧ Fr n0 L ∧ h = h0
set_option maxRecDepth 65536 in
set_option maxHeartbeats 40000000 in
theorem rm1 (l : Launch) (Z : State) (a0 : Array Value) (hw : ∀ d ∈ tables_1, d.before a0 Z = true) (ws : List Jvm.Cond) (q1 : Int64) (q2 : Int64) (h0 : Heap) (n0 : Nat) (Z0 : n0 ≤ h0.size) :
    MetFree l y_0 (head1 (Jvm.Cond.code y_0 jdk_29_method_66_code 4 (some .long) :: ws) ({ frames := 0, cells := 0, slots := 0, locals := 0 } : Room)) (fun a U => a = #[(.long q1), (.long q2)] ∧ Z.Warmed39 U.vm ∧ U.heap = h0) (fun _ _ _ _ _ => True) (fun _ U o U' => ∃ v L, o = .returned v ∧ Q1 Z q1 q2 h0 n0 v U'.heap L ∧ FrameEnd U o U' L ({ frames := 0, cells := 0, slots := 0, locals := 0 } : Room).cells ({ frames := 0, cells := 0, slots := 0, locals := 0 } : Room).slots) := by
  refine MetFree.of_bodySF (Jvm.Free.JP.mathPlain rfl (by decide +kernel)) hisR ?_
  intro p e s m args below meth c s₁ Bd hml0 hP hK
  obtain ⟨rfl, hZ, hh⟩ := hP
  have hx := Bd.exec
  have hby := Bd.bytes
  have hml : c.maxLocals = 4 := hml0
  have hown : s.vm.findClass "java/lang/Math" = some m.cls := findClass_of_methodNamed Bd.named
  have hnm := (name_of_methodNamed Bd.named Bd.method).1
  have X0 : Stand p l e ({ frames := 0, cells := 0, slots := 0, locals := 0 } : Room) s m #[(.long q1), (.long q2)] below meth c s₁ [] 0 0 := Stand.of_body Bd
  have e0 : s₁.heap = h0 := by rw [← hh, Bd.state]; rfl
  have N0 := Fr.nil n0
  obtain ⟨F0, hF0⟩ : ∃ F : JFrame, F = entryFrame m #[(.long q1), (.long q2)] 4 := ⟨_, rfl⟩
  have pre0 : ∀ t, Steps p.tables e below (s₁.setTop F0) t → Steps p.tables e below (s₁.setTop (entryFrame m #[(.long q1), (.long q2)] 4)) t := fun t k => hF0 ▸ k
  have go0 : Go p e below s₁ F0 s₁ (mkF m 0 #[vj q1, .second, vj q2, .second] []) := fun t k => castTop (hF0.trans (ef_1 m q1 q2)) k
  have go1 : Go p e below s₁ F0 s₁ (mkF m 3 #[vj q1, .second, vj q2, .second] [(.int (lcmpW q1 q2))]) := by
    intro t kt
    refine go0 t ?_
    refine o_lloadN X0 hx (hb hby d1_0) rfl ?_
    refine o_lloadN X0 hx (hb hby d1_1) rfl ?_
    refine o_lcmp X0 hx (hb hby d1_2) ?_
    exact kt
  by_cases hc3_2 : q1 < q2
  · skip
    have go3 : Go p e below s₁ F0 s₁ (mkF m 11 #[vj q1, .second, vj q2, .second] [(.long q2)]) := by
      intro t kt
      refine go1 t ?_
      refine o_ifYes X0 hx (hb hby d1_3) (pc' := 10) rfl (by decide) ((if0 _ _).trans (tlt ((lw_lt _ _).mpr hc3_2)).1) ?_
      refine o_lloadN X0 hx (hb hby d1_10) rfl ?_
      exact kt
    obtain ⟨fs, hr, hrun, hended, hW, hsame⟩ := X0.leave (v := some (.long q2)) (fun h => by rw [Bd.returns] at h; cases h)
    refine ⟨_, _, pre0 _ (go3 _ ?_), hrun, hended, _, _, rfl, ?_, ⟨_, rfl⟩, hW, hsame.mono (by decide) (by decide)⟩
    · skip
      exact retOut X0 hx Bd.returns rfl (Or.inr (Or.inl ⟨rfl, rfl, _, rfl⟩)) (hb hby d1_11) hr
    · show Q1 Z q1 q2 h0 n0 _ s₁.heap _
      rw [e0]
      exact ⟨(congrArg (fun z => some (Value.long z)) (show q2 = f1 q1 q2 from by unfold f1; rw [if_pos hc3_2])), N0, rfl⟩
  · skip
    have go4 : Go p e below s₁ F0 s₁ (mkF m 11 #[vj q1, .second, vj q2, .second] [(.long q1)]) := by
      intro t kt
      refine go1 t ?_
      refine o_ifNo X0 hx (hb hby d1_3) ((if0 _ _).trans (flt (fun q => hc3_2 ((lw_lt _ _).mp q))).1) ?_
      refine o_lloadN X0 hx (hb hby d1_6) rfl ?_
      refine o_goto X0 hx (hb hby d1_7) (pc' := 11) rfl (by decide) ?_
      exact kt
    obtain ⟨fs, hr, hrun, hended, hW, hsame⟩ := X0.leave (v := some (.long q1)) (fun h => by rw [Bd.returns] at h; cases h)
    refine ⟨_, _, pre0 _ (go4 _ ?_), hrun, hended, _, _, rfl, ?_, ⟨_, rfl⟩, hW, hsame.mono (by decide) (by decide)⟩
    · skip
      exact retOut X0 hx Bd.returns rfl (Or.inr (Or.inl ⟨rfl, rfl, _, rfl⟩)) (hb hby d1_11) hr
    · show Q1 Z q1 q2 h0 n0 _ s₁.heap _
      rw [e0]
      exact ⟨(congrArg (fun z => some (Value.long z)) (show q1 = f1 q1 q2 from by unfold f1; rw [if_neg hc3_2])), N0, rfl⟩

theorem d3_0 : decode jdk_30_method_1_code 0 = .ok (.aload_n 0, 1) := by decide +kernel
theorem d3_1 : decode jdk_30_method_1_code 1 = .ok (.invokespecial 1, 3) := by decide +kernel
theorem d3_4 : decode jdk_30_method_1_code 4 = .ok (.return_, 1) := by decide +kernel
theorem pn_3 : plainName "java/lang/Record" = true := by first | (simp [plainName, overriddenIn]; done) | decide +kernel
theorem ef_3 (m : MethodId) (x0 : Addr) : entryFrame m #[(.ref x0)] 1 = mkF m 0 #[vr x0] [] := by first | (simp [entryFrame, mkF, argsToLocals, Value.category]; done) | rfl
def Q3 (Z : State) (a1 : Addr) (h0 : Heap) (n0 : Nat) (v : Option Value) (h : Heap) (L : List Loc) : Prop := v = none ∧ Fr n0 L ∧ h = h0
set_option maxRecDepth 65536 in
set_option maxHeartbeats 40000000 in
theorem rm3 (l : Launch) (Z : State) (a0 : Array Value) (hw : ∀ d ∈ tables_1, d.before a0 Z = true) (ws : List Jvm.Cond) (a1 : Addr) (h0 : Heap) (n0 : Nat) (Z0 : n0 ≤ h0.size) :
    MetFree l y_1 (head1 (Jvm.Cond.code y_1 jdk_30_method_1_code 1 none :: ws) ({ frames := 1, cells := 0, slots := 0, locals := 12 } : Room)) (fun a U => a = #[(.ref a1)] ∧ Z.Warmed39 U.vm ∧ U.heap = h0) (fun _ _ _ _ _ => True) (fun _ U o U' => ∃ v L, o = .returned v ∧ Q3 Z a1 h0 n0 v U'.heap L ∧ FrameEnd U o U' L ({ frames := 1, cells := 0, slots := 0, locals := 12 } : Room).cells ({ frames := 1, cells := 0, slots := 0, locals := 12 } : Room).slots) := by
  refine MetFree.of_bodySF (plainFor_of_name pn_3) hisR ?_
  intro p e s m args below meth c s₁ Bd hml0 hP hK
  obtain ⟨rfl, hZ, hh⟩ := hP
  have hx := Bd.exec
  have hby := Bd.bytes
  have hml : c.maxLocals = 1 := hml0
  have hown : s.vm.findClass "java/lang/Record" = some m.cls := findClass_of_methodNamed Bd.named
  have hnm := (name_of_methodNamed Bd.named Bd.method).1
  have X0 : Stand p l e ({ frames := 1, cells := 0, slots := 0, locals := 12 } : Room) s m #[(.ref a1)] below meth c s₁ [] 0 0 := Stand.of_body Bd
  have e0 : s₁.heap = h0 := by rw [← hh, Bd.state]; rfl
  have N0 := Fr.nil n0
  obtain ⟨F0, hF0⟩ : ∃ F : JFrame, F = entryFrame m #[(.ref a1)] 1 := ⟨_, rfl⟩
  have pre0 : ∀ t, Steps p.tables e below (s₁.setTop F0) t → Steps p.tables e below (s₁.setTop (entryFrame m #[(.ref a1)] 1)) t := fun t k => hF0 ▸ k
  have go0 : Go p e below s₁ F0 s₁ (mkF m 0 #[vr a1] []) := fun t k => castTop (hF0.trans (ef_3 m a1)) k
  have go1 : Go p e below s₁ F0 s₁ (mkF m 1 #[vr a1] [(.ref a1)]) := by
    intro t kt
    refine go0 t ?_
    refine o_aloadN X0 hx (hb hby d3_0) rfl rfl ?_
    exact kt
  obtain ⟨T2, X2, e2, st2⟩ := initO X0 hx hZ hown (own_w hw 17 rfl) (own_w hw 18 rfl) (own_w hw 19 rfl) e0 (g := (mkF m 1 #[vr a1] [(.ref a1)])) rfl (by rw [hml]; rfl) rfl (hb hby d3_1) (by decide) (W := 0) (by show 2 * 0 + _ ≤ _; exact Nat.le_of_eq rfl) (by decide)
  have go3 : Go p e below s₁ F0 T2 (mkF m 4 #[vr a1] []) := fun t k => go1 t (st2 t k)
  obtain ⟨fs, hr, hrun, hended, hW, hsame⟩ := X2.leave (v := none) (fun _ => rfl)
  refine ⟨_, _, pre0 _ (go3 _ ?_), hrun, hended, _, _, rfl, ?_, ⟨_, rfl⟩, hW, hsame.mono (by decide) (by decide)⟩
  · skip
    exact X2.returnOut hx Bd.returns (hb hby d3_4) hr
  · show Q3 Z a1 h0 n0 _ T2.heap _
    rw [e2]
    exact ⟨rfl, N0, rfl⟩

theorem d2_0 : decode prog_46_method_1_code 0 = .ok (.aload_n 0, 1) := by decide +kernel
theorem d2_1 : decode prog_46_method_1_code 1 = .ok (.invokespecial 1, 3) := by decide +kernel
theorem d2_4 : decode prog_46_method_1_code 4 = .ok (.lload_n 1, 1) := by decide +kernel
theorem d2_5 : decode prog_46_method_1_code 5 = .ok (.ldc2_w 9, 3) := by decide +kernel
theorem d2_8 : decode prog_46_method_1_code 8 = .ok (.lcmp, 1) := by decide +kernel
theorem d2_9 : decode prog_46_method_1_code 9 = .ok (.ifCond .ge 36, 3) := by decide +kernel
theorem d2_45 : decode prog_46_method_1_code 45 = .ok (.lload_n 3, 1) := by decide +kernel
theorem d2_46 : decode prog_46_method_1_code 46 = .ok (.ldc2_w 9, 3) := by decide +kernel
theorem d2_49 : decode prog_46_method_1_code 49 = .ok (.lcmp, 1) := by decide +kernel
theorem d2_50 : decode prog_46_method_1_code 50 = .ok (.ifCond .ge 36, 3) := by decide +kernel
theorem d2_86 : decode prog_46_method_1_code 86 = .ok (.lload 5, 2) := by decide +kernel
theorem d2_88 : decode prog_46_method_1_code 88 = .ok (.lconst 1, 1) := by decide +kernel
theorem d2_89 : decode prog_46_method_1_code 89 = .ok (.lcmp, 1) := by decide +kernel
theorem d2_90 : decode prog_46_method_1_code 90 = .ok (.ifCond .ge 28, 3) := by decide +kernel
theorem d2_118 : decode prog_46_method_1_code 118 = .ok (.aload_n 0, 1) := by decide +kernel
theorem d2_119 : decode prog_46_method_1_code 119 = .ok (.lload_n 1, 1) := by decide +kernel
theorem d2_120 : decode prog_46_method_1_code 120 = .ok (.putfield 36, 3) := by decide +kernel
theorem d2_123 : decode prog_46_method_1_code 123 = .ok (.aload_n 0, 1) := by decide +kernel
theorem d2_124 : decode prog_46_method_1_code 124 = .ok (.lload_n 3, 1) := by decide +kernel
theorem d2_125 : decode prog_46_method_1_code 125 = .ok (.putfield 40, 3) := by decide +kernel
theorem d2_128 : decode prog_46_method_1_code 128 = .ok (.aload_n 0, 1) := by decide +kernel
theorem d2_129 : decode prog_46_method_1_code 129 = .ok (.lload 5, 2) := by decide +kernel
theorem d2_131 : decode prog_46_method_1_code 131 = .ok (.putfield 43, 3) := by decide +kernel
theorem d2_134 : decode prog_46_method_1_code 134 = .ok (.return_, 1) := by decide +kernel
theorem pn_2 : plainName "com/example/ledgerline/ledgerline/log/Retention" = true := by first | (simp [plainName, overriddenIn]; done) | decide +kernel
theorem pd2_0 : parseMethodDescriptor "()V" = some ⟨[], none⟩ := by decide +kernel
theorem ef_2 (m : MethodId) (x0 : Addr) (x1 : Int64) (x2 : Int64) (x3 : Int64) : entryFrame m #[(.ref x0), (.long x1), (.long x2), (.long x3)] 7 = mkF m 0 #[vr x0, vj x1, .second, vj x2, .second, vj x3, .second] [] := by first | (simp [entryFrame, mkF, argsToLocals, Value.category]; done) | rfl
def Q2 (Z : State) (a1 : Addr) (q2 : Int64) (q3 : Int64) (q4 : Int64) (h0 : Heap) (n0 : Nat) (v : Option Value) (h : Heap) (L : List Loc) : Prop := v = none ∧ Fr n0 L ∧ Keep h0 h [a1] ∧ Fld Z h a1 c_0 "millis" "J" (.long q2)
set_option maxRecDepth 65536 in
set_option maxHeartbeats 40000000 in
theorem rm2 (l : Launch) (Z : State) (a0 : Array Value) (hw : ∀ d ∈ tables_1, d.before a0 Z = true) (ws : List Jvm.Cond) (a1 : Addr) (q2 : Int64) (q3 : Int64) (q4 : Int64) (h0 : Heap) (n0 : Nat) (Z0 : n0 ≤ h0.size) (E0 : Exa Z h0 a1 c_0) (F1 : Fld Z h0 a1 c_0 "millis" "J" (.long (0 : Int64))) (F2 : Fld Z h0 a1 c_0 "bytes" "J" (.long (0 : Int64))) (F3 : Fld Z h0 a1 c_0 "checkMillis" "J" (.long (0 : Int64))) (g1 : n0 ≤ a1) (h1 : ¬ q2 < (-1 : Int64)) (h2 : ¬ q3 < (-1 : Int64)) (h3 : ¬ q4 < (1 : Int64)) :
    MetFree l y_2 (head1 (Jvm.Cond.code y_2 prog_46_method_1_code 7 none :: ws) ({ frames := 2, cells := 0, slots := 0, locals := 24 } : Room)) (fun a U => a = #[(.ref a1), (.long q2), (.long q3), (.long q4)] ∧ Z.Warmed39 U.vm ∧ U.heap = h0) (fun _ _ _ _ _ => True) (fun _ U o U' => ∃ v L, o = .returned v ∧ Q2 Z a1 q2 q3 q4 h0 n0 v U'.heap L ∧ FrameEnd U o U' L ({ frames := 2, cells := 0, slots := 0, locals := 24 } : Room).cells ({ frames := 2, cells := 0, slots := 0, locals := 24 } : Room).slots) := by
  refine MetFree.of_bodySF (plainFor_of_name pn_2) hisR ?_
  intro p e s m args below meth c s₁ Bd hml0 hP hK
  obtain ⟨rfl, hZ, hh⟩ := hP
  have hx := Bd.exec
  have hby := Bd.bytes
  have hml : c.maxLocals = 7 := hml0
  have hown : s.vm.findClass "com/example/ledgerline/ledgerline/log/Retention" = some m.cls := findClass_of_methodNamed Bd.named
  have hnm := (name_of_methodNamed Bd.named Bd.method).1
  have X0 : Stand p l e ({ frames := 2, cells := 0, slots := 0, locals := 24 } : Room) s m #[(.ref a1), (.long q2), (.long q3), (.long q4)] below meth c s₁ [] 0 0 := Stand.of_body Bd
  have e0 : s₁.heap = h0 := by rw [← hh, Bd.state]; rfl
  have N0 := Fr.nil n0
  have K0 : Keep h0 h0 [a1] := Keep.refl h0 [a1]
  obtain ⟨F0, hF0⟩ : ∃ F : JFrame, F = entryFrame m #[(.ref a1), (.long q2), (.long q3), (.long q4)] 7 := ⟨_, rfl⟩
  have pre0 : ∀ t, Steps p.tables e below (s₁.setTop F0) t → Steps p.tables e below (s₁.setTop (entryFrame m #[(.ref a1), (.long q2), (.long q3), (.long q4)] 7)) t := fun t k => hF0 ▸ k
  have go0 : Go p e below s₁ F0 s₁ (mkF m 0 #[vr a1, vj q2, .second, vj q3, .second, vj q4, .second] []) := fun t k => castTop (hF0.trans (ef_2 m a1 q2 q3 q4)) k
  have go1 : Go p e below s₁ F0 s₁ (mkF m 1 #[vr a1, vj q2, .second, vj q3, .second, vj q4, .second] [(.ref a1)]) := by
    intro t kt
    refine go0 t ?_
    refine o_aloadN X0 hx (hb hby d2_0) rfl rfl ?_
    exact kt
  obtain ⟨_, _, ⟨T2, L2, k2, n2⟩, -, X2, ⟨Lc2, hQ2, l2, y2, z2⟩, st2⟩ := X0.specialBack hx (y := y_1) rfl hown (mvT hZ (own_w hw 12 rfl)) (mvT hZ (own_w hw 13 rfl)) (mvT hZ (own_w hw 16 rfl)) (by decide) (backOf (W := 0) (rm3 l Z a0 hw [] a1 h0 n0 Z0 ) hZ (own_w hw 16 rfl) (own_w hw 15 rfl) (by decide) (by decide)) (g := (mkF m 1 #[vr a1, vj q2, .second, vj q3, .second, vj q4, .second] [(.ref a1)])) rfl (by rw [hml]; rfl) (Steps.refl _) (a := a1) (argsL := []) (rest := []) (lenOf pd2_0 rfl) rfl (by show 2 * 0 + _ ≤ _; exact Nat.le_of_eq rfl) (hb hby d2_1) (fun _ _ => ⟨rfl, e0, (by decide : 0 + 0 ≤ _), (by decide : 0 + 0 ≤ _)⟩)
  dsimp only [Pt.U, Pt.locs, Pt.cells, Pt.slots] at X2 l2 y2 z2 st2 hQ2
  subst l2 y2 z2
  obtain ⟨rfl, Nq2, eh2⟩ := hQ2
  have N2 := Fr.app N0 Nq2
  have go3 : Go p e below s₁ F0 T2 (mkF m 4 #[vr a1, vj q2, .second, vj q3, .second, vj q4, .second] []) := fun t k => go1 t (st2.trans k)
  have go4 : Go p e below s₁ F0 T2 (mkF m 120 #[vr a1, vj q2, .second, vj q3, .second, vj q4, .second] [(.long q2), (.ref a1)]) := by
    intro t kt
    refine go3 t ?_
    refine o_lloadN X2 hx (hb hby d2_4) rfl ?_
    refine o_ldc2 X2 hx hown (mvT hZ (own_w hw 20 rfl)) (hb hby d2_5) ?_
    refine o_lcmp X2 hx (hb hby d2_8) ?_
    refine o_ifYes X2 hx (hb hby d2_9) (pc' := 45) rfl (by decide) ((if0 _ _).trans (flt (fun q => h1 ((lw_lt _ _).mp q))).2.1) ?_
    refine o_lloadN X2 hx (hb hby d2_45) rfl ?_
    refine o_ldc2 X2 hx hown (mvT hZ (own_w hw 20 rfl)) (hb hby d2_46) ?_
    refine o_lcmp X2 hx (hb hby d2_49) ?_
    refine o_ifYes X2 hx (hb hby d2_50) (pc' := 86) rfl (by decide) ((if0 _ _).trans (flt (fun q => h2 ((lw_lt _ _).mp q))).2.1) ?_
    refine o_lload X2 hx (hb hby d2_86) rfl ?_
    refine o_lconst X2 hx (hb hby d2_88) (v := 1) rfl ?_
    refine o_lcmp X2 hx (hb hby d2_89) ?_
    refine o_ifYes X2 hx (hb hby d2_90) (pc' := 118) rfl (by decide) ((if0 _ _).trans (flt (fun q => h3 ((lw_lt _ _).mp q))).2.1) ?_
    refine o_aloadN X2 hx (hb hby d2_118) rfl rfl ?_
    refine o_lloadN X2 hx (hb hby d2_119) rfl ?_
    exact kt
  obtain ⟨T5, h5, X5, e5, W5, st5⟩ := putF X2 hx hZ hown (host := "") (Or.inl (own_w hw 21 rfl)) Via.refl eh2 F1 E0 (Or.inr ⟨(own_w hw 22 rfl), rfl, hnm⟩) (own_w hw 7 rfl) (ty := .long) (by decide) rfl rfl (g := (mkF m 120 #[vr a1, vj q2, .second, vj q3, .second, vj q4, .second] [(.long q2), (.ref a1)])) rfl rfl (hb hby d2_120)
  have Fw5 : Fld Z h5 a1 c_0 "millis" "J" (.long q2) := Fld.same W5 F1
  have K6 : Keep h0 h5 [a1] := K0.wr W5 (Or.inl (List.mem_of_getElem? (i := 0) rfl))
  have Z6 : n0 ≤ h5.size := Nat.le_trans Z0 (Keep.of_wr W5).1
  have N5 := Fr.snoc X5 N2 g1
  have go7 : Go p e below s₁ F0 T5 (mkF m 123 #[vr a1, vj q2, .second, vj q3, .second, vj q4, .second] []) := fun t k => go4 t (st5 t k)
  have F8 : Exa Z h5 a1 c_0 := (E0.wr W5)
  have F9 : Fld Z h5 a1 c_0 "bytes" "J" (.long (0 : Int64)) := (F2.other W5 (Or.inr (slot_ne (Or.inr (own_w hw 24 rfl)) (Or.inr (own_w hw 22 rfl)) (by decide) (t := .long) (t' := .long) (by decide) (by decide))))
  have go10 : Go p e below s₁ F0 T5 (mkF m 125 #[vr a1, vj q2, .second, vj q3, .second, vj q4, .second] [(.long q3), (.ref a1)]) := by
    intro t kt
    refine go7 t ?_
    refine o_aloadN X5 hx (hb hby d2_123) rfl rfl ?_
    refine o_lloadN X5 hx (hb hby d2_124) rfl ?_
    exact kt
  obtain ⟨T11, h11, X11, e11, W11, st11⟩ := putF X5 hx hZ hown (host := "") (Or.inl (own_w hw 23 rfl)) Via.refl e5 F9 F8 (Or.inr ⟨(own_w hw 24 rfl), rfl, hnm⟩) (own_w hw 7 rfl) (ty := .long) (by decide) rfl rfl (g := (mkF m 125 #[vr a1, vj q2, .second, vj q3, .second, vj q4, .second] [(.long q3), (.ref a1)])) rfl rfl (hb hby d2_125)
  have Fw11 : Fld Z h11 a1 c_0 "bytes" "J" (.long q3) := Fld.same W11 F9
  have K12 : Keep h0 h11 [a1] := K6.wr W11 (Or.inl (List.mem_of_getElem? (i := 0) rfl))
  have Z12 : n0 ≤ h11.size := Nat.le_trans Z6 (Keep.of_wr W11).1
  have N11 := Fr.snoc X11 N5 g1
  have go13 : Go p e below s₁ F0 T11 (mkF m 128 #[vr a1, vj q2, .second, vj q3, .second, vj q4, .second] []) := fun t k => go10 t (st11 t k)
  have F14 : Exa Z h11 a1 c_0 := (F8.wr W11)
  have F15 : Fld Z h11 a1 c_0 "checkMillis" "J" (.long (0 : Int64)) := ((F3.other W5 (Or.inr (slot_ne (Or.inr (own_w hw 26 rfl)) (Or.inr (own_w hw 22 rfl)) (by decide) (t := .long) (t' := .long) (by decide) (by decide)))).other W11 (Or.inr (slot_ne (Or.inr (own_w hw 26 rfl)) (Or.inr (own_w hw 24 rfl)) (by decide) (t := .long) (t' := .long) (by decide) (by decide))))
  have go16 : Go p e below s₁ F0 T11 (mkF m 131 #[vr a1, vj q2, .second, vj q3, .second, vj q4, .second] [(.long q4), (.ref a1)]) := by
    intro t kt
    refine go13 t ?_
    refine o_aloadN X11 hx (hb hby d2_128) rfl rfl ?_
    refine o_lload X11 hx (hb hby d2_129) rfl ?_
    exact kt
  obtain ⟨T17, h17, X17, e17, W17, st17⟩ := putF X11 hx hZ hown (host := "") (Or.inl (own_w hw 25 rfl)) Via.refl e11 F15 F14 (Or.inr ⟨(own_w hw 26 rfl), rfl, hnm⟩) (own_w hw 7 rfl) (ty := .long) (by decide) rfl rfl (g := (mkF m 131 #[vr a1, vj q2, .second, vj q3, .second, vj q4, .second] [(.long q4), (.ref a1)])) rfl rfl (hb hby d2_131)
  have Fw17 : Fld Z h17 a1 c_0 "checkMillis" "J" (.long q4) := Fld.same W17 F15
  have K18 : Keep h0 h17 [a1] := K12.wr W17 (Or.inl (List.mem_of_getElem? (i := 0) rfl))
  have Z18 : n0 ≤ h17.size := Nat.le_trans Z12 (Keep.of_wr W17).1
  have N17 := Fr.snoc X17 N11 g1
  have go19 : Go p e below s₁ F0 T17 (mkF m 134 #[vr a1, vj q2, .second, vj q3, .second, vj q4, .second] []) := fun t k => go16 t (st17 t k)
  obtain ⟨fs, hr, hrun, hended, hW, hsame⟩ := X17.leave (v := none) (fun _ => rfl)
  refine ⟨_, _, pre0 _ (go19 _ ?_), hrun, hended, _, _, rfl, ?_, ⟨_, rfl⟩, hW, hsame.mono (by decide) (by decide)⟩
  · skip
    exact X17.returnOut hx Bd.returns (hb hby d2_134) hr
  · show Q2 Z a1 q2 q3 q4 h0 n0 _ T17.heap _
    rw [e17]
    have F20 : Fld Z h17 a1 c_0 "millis" "J" (.long q2) := ((Fw5.other W11 (Or.inr (slot_ne (Or.inr (own_w hw 22 rfl)) (Or.inr (own_w hw 24 rfl)) (by decide) (t := .long) (t' := .long) (by decide) (by decide)))).other W17 (Or.inr (slot_ne (Or.inr (own_w hw 22 rfl)) (Or.inr (own_w hw 26 rfl)) (by decide) (t := .long) (t' := .long) (by decide) (by decide))))
    exact ⟨rfl, N17, K18, F20⟩

theorem d5_0 : decode prog_46_method_3_code 0 = .ok (.aload_n 0, 1) := by decide +kernel
theorem d5_1 : decode prog_46_method_3_code 1 = .ok (.getfield 36, 3) := by decide +kernel
theorem d5_4 : decode prog_46_method_3_code 4 = .ok (.ldc2_w 9, 3) := by decide +kernel
theorem d5_7 : decode prog_46_method_3_code 7 = .ok (.lcmp, 1) := by decide +kernel
theorem d5_8 : decode prog_46_method_3_code 8 = .ok (.ifCond .eq 24, 3) := by decide +kernel
theorem d5_11 : decode prog_46_method_3_code 11 = .ok (.lload_n 1, 1) := by decide +kernel
theorem d5_12 : decode prog_46_method_3_code 12 = .ok (.lconst 0, 1) := by decide +kernel
theorem d5_13 : decode prog_46_method_3_code 13 = .ok (.lcmp, 1) := by decide +kernel
theorem d5_14 : decode prog_46_method_3_code 14 = .ok (.ifCond .lt 18, 3) := by decide +kernel
theorem d5_17 : decode prog_46_method_3_code 17 = .ok (.lload_n 1, 1) := by decide +kernel
theorem d5_18 : decode prog_46_method_3_code 18 = .ok (.lload_n 3, 1) := by decide +kernel
theorem d5_19 : decode prog_46_method_3_code 19 = .ok (.aload_n 0, 1) := by decide +kernel
theorem d5_20 : decode prog_46_method_3_code 20 = .ok (.getfield 36, 3) := by decide +kernel
theorem d5_23 : decode prog_46_method_3_code 23 = .ok (.lsub, 1) := by decide +kernel
theorem d5_24 : decode prog_46_method_3_code 24 = .ok (.lcmp, 1) := by decide +kernel
theorem d5_25 : decode prog_46_method_3_code 25 = .ok (.ifCond .ge 7, 3) := by decide +kernel
theorem d5_28 : decode prog_46_method_3_code 28 = .ok (.iconst 1, 1) := by decide +kernel
theorem d5_29 : decode prog_46_method_3_code 29 = .ok (.goto 4, 3) := by decide +kernel
theorem d5_32 : decode prog_46_method_3_code 32 = .ok (.iconst 0, 1) := by decide +kernel
theorem d5_33 : decode prog_46_method_3_code 33 = .ok (.ireturn, 1) := by decide +kernel
theorem pn_5 : plainName "com/example/ledgerline/ledgerline/log/Retention" = true := by first | (simp [plainName, overriddenIn]; done) | decide +kernel
theorem ef_5 (m : MethodId) (x0 : Addr) (x1 : Int64) (x2 : Int64) : entryFrame m #[(.ref x0), (.long x1), (.long x2)] 5 = mkF m 0 #[vr x0, vj x1, .second, vj x2, .second] [] := by first | (simp [entryFrame, mkF, argsToLocals, Value.category]; done) | rfl
def f5 (q2 : Int64) (q3 : Int64) (w : Int64) : Int32 := (if w = (-1 : Int64) then (0 : Int32) else (if q2 < (0 : Int64) then (0 : Int32) else (if q2 < (q3 - w) then (1 : Int32) else (0 : Int32))))
def Q5 (Z : State) (a1 : Addr) (q2 : Int64) (q3 : Int64) (w : Int64) (h0 : Heap) (n0 : Nat) (v : Option Value) (h : Heap) (L : List Loc) : Prop := v = some (.int (f5 q2 q3 w)) ∧ Fr n0 L ∧ h = h0
set_option maxRecDepth 65536 in
set_option maxHeartbeats 40000000 in
theorem rm5 (l : Launch) (Z : State) (a0 : Array Value) (hw : ∀ d ∈ tables_1, d.before a0 Z = true) (ws : List Jvm.Cond) (a1 : Addr) (q2 : Int64) (q3 : Int64) (w : Int64) (h0 : Heap) (n0 : Nat) (Z0 : n0 ≤ h0.size) (F1 : Fld Z h0 a1 c_0 "millis" "J" (.long w)) :
    MetFree l y_3 (head1 (Jvm.Cond.code y_3 prog_46_method_3_code 5 (some .boolean) :: ws) ({ frames := 0, cells := 0, slots := 0, locals := 0 } : Room)) (fun a U => a = #[(.ref a1), (.long q2), (.long q3)] ∧ Z.Warmed39 U.vm ∧ U.heap = h0) (fun _ _ _ _ _ => True) (fun _ U o U' => ∃ v L, o = .returned v ∧ Q5 Z a1 q2 q3 w h0 n0 v U'.heap L ∧ FrameEnd U o U' L ({ frames := 0, cells := 0, slots := 0, locals := 0 } : Room).cells ({ frames := 0, cells := 0, slots := 0, locals := 0 } : Room).slots) := by
  refine MetFree.of_bodySF (plainFor_of_name pn_5) hisR ?_
  intro p e s m args below meth c s₁ Bd hml0 hP hK
  obtain ⟨rfl, hZ, hh⟩ := hP
  have hx := Bd.exec
  have hby := Bd.bytes
  have hml : c.maxLocals = 5 := hml0
  have hown : s.vm.findClass "com/example/ledgerline/ledgerline/log/Retention" = some m.cls := findClass_of_methodNamed Bd.named
  have hnm := (name_of_methodNamed Bd.named Bd.method).1
  have X0 : Stand p l e ({ frames := 0, cells := 0, slots := 0, locals := 0 } : Room) s m #[(.ref a1), (.long q2), (.long q3)] below meth c s₁ [] 0 0 := Stand.of_body Bd
  have e0 : s₁.heap = h0 := by rw [← hh, Bd.state]; rfl
  have N0 := Fr.nil n0
  obtain ⟨F0, hF0⟩ : ∃ F : JFrame, F = entryFrame m #[(.ref a1), (.long q2), (.long q3)] 5 := ⟨_, rfl⟩
  have pre0 : ∀ t, Steps p.tables e below (s₁.setTop F0) t → Steps p.tables e below (s₁.setTop (entryFrame m #[(.ref a1), (.long q2), (.long q3)] 5)) t := fun t k => hF0 ▸ k
  have go0 : Go p e below s₁ F0 s₁ (mkF m 0 #[vr a1, vj q2, .second, vj q3, .second] []) := fun t k => castTop (hF0.trans (ef_5 m a1 q2 q3)) k
  have go1 : Go p e below s₁ F0 s₁ (mkF m 1 #[vr a1, vj q2, .second, vj q3, .second] [(.ref a1)]) := by
    intro t kt
    refine go0 t ?_
    refine o_aloadN X0 hx (hb hby d5_0) rfl rfl ?_
    exact kt
  obtain ⟨T2, X2, e2, st2⟩ := getF X0 hx hZ hown (host := "") (Or.inl (own_w hw 21 rfl)) Via.refl e0 F1 (g := (mkF m 1 #[vr a1, vj q2, .second, vj q3, .second] [(.ref a1)])) rfl rfl (hb hby d5_1)
  have go3 : Go p e below s₁ F0 T2 (mkF m 4 #[vr a1, vj q2, .second, vj q3, .second] [(.long w)]) := fun t k => go1 t (st2 t k)
  have go4 : Go p e below s₁ F0 T2 (mkF m 8 #[vr a1, vj q2, .second, vj q3, .second] [(.int (lcmpW w (-1 : Int64)))]) := by
    intro t kt
    refine go3 t ?_
    refine o_ldc2 X2 hx hown (mvT hZ (own_w hw 20 rfl)) (hb hby d5_4) ?_
    refine o_lcmp X2 hx (hb hby d5_7) ?_
    exact kt
  by_cases hc8_5 : w = (-1 : Int64)
  · skip
    have go6 : Go p e below s₁ F0 T2 (mkF m 33 #[vr a1, vj q2, .second, vj q3, .second] [(.int (0 : Int32))]) := by
      intro t kt
      refine go4 t ?_
      refine o_ifYes X2 hx (hb hby d5_8) (pc' := 32) rfl (by decide) ((if0 _ _).trans (teq ((lw_eq _ _).mpr hc8_5)).1) ?_
      refine o_iconst X2 hx (hb hby d5_32) (v := 0) rfl ?_
      exact kt
    obtain ⟨fs, hr, hrun, hended, hW, hsame⟩ := X2.leave (v := some (.int (0 : Int32))) (fun h => by rw [Bd.returns] at h; cases h)
    refine ⟨_, _, pre0 _ (go6 _ ?_), hrun, hended, _, _, rfl, ?_, ⟨_, rfl⟩, hW, hsame.mono (by decide) (by decide)⟩
    · skip
      exact retN X2 hx (t := .boolean) Bd.returns (by simp) (hb hby d5_33) hr
    · show Q5 Z a1 q2 q3 w h0 n0 _ T2.heap _
      rw [e2]
      exact ⟨(congrArg (fun z => some (Value.int z)) (show (0 : Int32) = f5 q2 q3 w from by unfold f5; rw [if_pos hc8_5])), N0, rfl⟩
  · skip
    have go7 : Go p e below s₁ F0 T2 (mkF m 14 #[vr a1, vj q2, .second, vj q3, .second] [(.int (lcmpW q2 (0 : Int64)))]) := by
      intro t kt
      refine go4 t ?_
      refine o_ifNo X2 hx (hb hby d5_8) ((if0 _ _).trans (feq (fun q => hc8_5 ((lw_eq _ _).mp q))).1) ?_
      refine o_lloadN X2 hx (hb hby d5_11) rfl ?_
      refine o_lconst X2 hx (hb hby d5_12) (v := 0) rfl ?_
      refine o_lcmp X2 hx (hb hby d5_13) ?_
      exact kt
    by_cases hc14_8 : q2 < (0 : Int64)
    · skip
      have go9 : Go p e below s₁ F0 T2 (mkF m 33 #[vr a1, vj q2, .second, vj q3, .second] [(.int (0 : Int32))]) := by
        intro t kt
        refine go7 t ?_
        refine o_ifYes X2 hx (hb hby d5_14) (pc' := 32) rfl (by decide) ((if0 _ _).trans (tlt ((lw_lt _ _).mpr hc14_8)).1) ?_
        refine o_iconst X2 hx (hb hby d5_32) (v := 0) rfl ?_
        exact kt
      obtain ⟨fs, hr, hrun, hended, hW, hsame⟩ := X2.leave (v := some (.int (0 : Int32))) (fun h => by rw [Bd.returns] at h; cases h)
      refine ⟨_, _, pre0 _ (go9 _ ?_), hrun, hended, _, _, rfl, ?_, ⟨_, rfl⟩, hW, hsame.mono (by decide) (by decide)⟩
      · skip
        exact retN X2 hx (t := .boolean) Bd.returns (by simp) (hb hby d5_33) hr
      · show Q5 Z a1 q2 q3 w h0 n0 _ T2.heap _
        rw [e2]
        exact ⟨(congrArg (fun z => some (Value.int z)) (show (0 : Int32) = f5 q2 q3 w from by unfold f5; rw [if_neg hc8_5, if_pos hc14_8])), N0, rfl⟩
    · skip
      have go10 : Go p e below s₁ F0 T2 (mkF m 20 #[vr a1, vj q2, .second, vj q3, .second] [(.ref a1), (.long q3), (.long q2)]) := by
        intro t kt
        refine go7 t ?_
        refine o_ifNo X2 hx (hb hby d5_14) ((if0 _ _).trans (flt (fun q => hc14_8 ((lw_lt _ _).mp q))).1) ?_
        refine o_lloadN X2 hx (hb hby d5_17) rfl ?_
        refine o_lloadN X2 hx (hb hby d5_18) rfl ?_
        refine o_aloadN X2 hx (hb hby d5_19) rfl rfl ?_
        exact kt
      obtain ⟨T11, X11, e11, st11⟩ := getF X2 hx hZ hown (host := "") (Or.inl (own_w hw 21 rfl)) Via.refl e2 F1 (g := (mkF m 20 #[vr a1, vj q2, .second, vj q3, .second] [(.ref a1), (.long q3), (.long q2)])) rfl rfl (hb hby d5_20)
      have go12 : Go p e below s₁ F0 T11 (mkF m 23 #[vr a1, vj q2, .second, vj q3, .second] [(.long w), (.long q3), (.long q2)]) := fun t k => go10 t (st11 t k)
      have go13 : Go p e below s₁ F0 T11 (mkF m 25 #[vr a1, vj q2, .second, vj q3, .second] [(.int (lcmpW q2 (q3 - w)))]) := by
        intro t kt
        refine go12 t ?_
        refine o_lsub X11 hx (hb hby d5_23) ?_
        refine o_lcmp X11 hx (hb hby d5_24) ?_
        exact kt
      by_cases hc25_14 : q2 < (q3 - w)
      · skip
        have go15 : Go p e below s₁ F0 T11 (mkF m 33 #[vr a1, vj q2, .second, vj q3, .second] [(.int (1 : Int32))]) := by
          intro t kt
          refine go13 t ?_
          refine o_ifNo X11 hx (hb hby d5_25) ((if0 _ _).trans (tlt ((lw_lt _ _).mpr hc25_14)).2.1) ?_
          refine o_iconst X11 hx (hb hby d5_28) (v := 1) rfl ?_
          refine o_goto X11 hx (hb hby d5_29) (pc' := 33) rfl (by decide) ?_
          exact kt
        obtain ⟨fs, hr, hrun, hended, hW, hsame⟩ := X11.leave (v := some (.int (1 : Int32))) (fun h => by rw [Bd.returns] at h; cases h)
        refine ⟨_, _, pre0 _ (go15 _ ?_), hrun, hended, _, _, rfl, ?_, ⟨_, rfl⟩, hW, hsame.mono (by decide) (by decide)⟩
        · skip
          exact retN X11 hx (t := .boolean) Bd.returns (by simp) (hb hby d5_33) hr
        · show Q5 Z a1 q2 q3 w h0 n0 _ T11.heap _
          rw [e11]
          exact ⟨(congrArg (fun z => some (Value.int z)) (show (1 : Int32) = f5 q2 q3 w from by unfold f5; rw [if_neg hc8_5, if_neg hc14_8, if_pos hc25_14])), N0, rfl⟩
      · skip
        have go16 : Go p e below s₁ F0 T11 (mkF m 33 #[vr a1, vj q2, .second, vj q3, .second] [(.int (0 : Int32))]) := by
          intro t kt
          refine go13 t ?_
          refine o_ifYes X11 hx (hb hby d5_25) (pc' := 32) rfl (by decide) ((if0 _ _).trans (flt (fun q => hc25_14 ((lw_lt _ _).mp q))).2.1) ?_
          refine o_iconst X11 hx (hb hby d5_32) (v := 0) rfl ?_
          exact kt
        obtain ⟨fs, hr, hrun, hended, hW, hsame⟩ := X11.leave (v := some (.int (0 : Int32))) (fun h => by rw [Bd.returns] at h; cases h)
        refine ⟨_, _, pre0 _ (go16 _ ?_), hrun, hended, _, _, rfl, ?_, ⟨_, rfl⟩, hW, hsame.mono (by decide) (by decide)⟩
        · skip
          exact retN X11 hx (t := .boolean) Bd.returns (by simp) (hb hby d5_33) hr
        · show Q5 Z a1 q2 q3 w h0 n0 _ T11.heap _
          rw [e11]
          exact ⟨(congrArg (fun z => some (Value.int z)) (show (0 : Int32) = f5 q2 q3 w from by unfold f5; rw [if_neg hc8_5, if_neg hc14_8, if_neg hc25_14])), N0, rfl⟩

theorem d6_0 : decode method_3_code 0 = .ok (.lload_n 0, 1) := by decide +kernel
theorem d6_1 : decode method_3_code 1 = .ok (.ldc2_w 9, 3) := by decide +kernel
theorem d6_4 : decode method_3_code 4 = .ok (.lcmp, 1) := by decide +kernel
theorem d6_5 : decode method_3_code 5 = .ok (.ifCond .ne 5, 3) := by decide +kernel
theorem d6_8 : decode method_3_code 8 = .ok (.iconst 0, 1) := by decide +kernel
theorem d6_9 : decode method_3_code 9 = .ok (.ireturn, 1) := by decide +kernel
theorem d6_10 : decode method_3_code 10 = .ok (.lload_n 2, 1) := by decide +kernel
theorem d6_11 : decode method_3_code 11 = .ok (.lconst 0, 1) := by decide +kernel
theorem d6_12 : decode method_3_code 12 = .ok (.lcmp, 1) := by decide +kernel
theorem d6_13 : decode method_3_code 13 = .ok (.ifCond .ge 5, 3) := by decide +kernel
theorem d6_16 : decode method_3_code 16 = .ok (.iconst 0, 1) := by decide +kernel
theorem d6_17 : decode method_3_code 17 = .ok (.ireturn, 1) := by decide +kernel
theorem d6_18 : decode method_3_code 18 = .ok (.lload 4, 2) := by decide +kernel
theorem d6_20 : decode method_3_code 20 = .ok (.lload_n 2, 1) := by decide +kernel
theorem d6_21 : decode method_3_code 21 = .ok (.lsub, 1) := by decide +kernel
theorem d6_22 : decode method_3_code 22 = .ok (.lstore 6, 2) := by decide +kernel
theorem d6_24 : decode method_3_code 24 = .ok (.lload 6, 2) := by decide +kernel
theorem d6_26 : decode method_3_code 26 = .ok (.lload_n 0, 1) := by decide +kernel
theorem d6_27 : decode method_3_code 27 = .ok (.lcmp, 1) := by decide +kernel
theorem d6_28 : decode method_3_code 28 = .ok (.ifCond .le 7, 3) := by decide +kernel
theorem d6_31 : decode method_3_code 31 = .ok (.iconst 1, 1) := by decide +kernel
theorem d6_32 : decode method_3_code 32 = .ok (.goto 4, 3) := by decide +kernel
theorem d6_35 : decode method_3_code 35 = .ok (.iconst 0, 1) := by decide +kernel
theorem d6_36 : decode method_3_code 36 = .ok (.ireturn, 1) := by decide +kernel
theorem pn_6 : plainName "com/example/ledgerline/ledgerline/log/RetentionExpiredPinLaw" = true := by first | (simp [plainName, overriddenIn]; done) | decide +kernel
theorem ef_6 (m : MethodId) (x0 : Int64) (x1 : Int64) (x2 : Int64) : entryFrame m #[(.long x0), (.long x1), (.long x2)] 8 = mkF m 0 #[vj x0, .second, vj x1, .second, vj x2, .second, .unset, .unset] [] := by first | (simp [entryFrame, mkF, argsToLocals, Value.category]; done) | rfl
def f6 (q1 : Int64) (q2 : Int64) (q3 : Int64) : Int32 := (if q1 = (-1 : Int64) then (0 : Int32) else (if q2 < (0 : Int64) then (0 : Int32) else (if q1 < (q3 - q2) then (1 : Int32) else (0 : Int32))))
def Q6 (Z : State) (q1 : Int64) (q2 : Int64) (q3 : Int64) (h0 : Heap) (n0 : Nat) (v : Option Value) (h : Heap) (L : List Loc) : Prop := v = some (.int (f6 q1 q2 q3)) ∧ Fr n0 L ∧ h = h0
set_option maxRecDepth 65536 in
set_option maxHeartbeats 40000000 in
theorem rm6 (l : Launch) (Z : State) (a0 : Array Value) (hw : ∀ d ∈ tables_1, d.before a0 Z = true) (ws : List Jvm.Cond) (q1 : Int64) (q2 : Int64) (q3 : Int64) (h0 : Heap) (n0 : Nat) (Z0 : n0 ≤ h0.size) :
    MetFree l y_4 (head1 (Jvm.Cond.code y_4 method_3_code 8 (some .boolean) :: ws) ({ frames := 0, cells := 0, slots := 0, locals := 0 } : Room)) (fun a U => a = #[(.long q1), (.long q2), (.long q3)] ∧ Z.Warmed39 U.vm ∧ U.heap = h0) (fun _ _ _ _ _ => True) (fun _ U o U' => ∃ v L, o = .returned v ∧ Q6 Z q1 q2 q3 h0 n0 v U'.heap L ∧ FrameEnd U o U' L ({ frames := 0, cells := 0, slots := 0, locals := 0 } : Room).cells ({ frames := 0, cells := 0, slots := 0, locals := 0 } : Room).slots) := by
  refine MetFree.of_bodySF (plainFor_of_name pn_6) hisR ?_
  intro p e s m args below meth c s₁ Bd hml0 hP hK
  obtain ⟨rfl, hZ, hh⟩ := hP
  have hx := Bd.exec
  have hby := Bd.bytes
  have hml : c.maxLocals = 8 := hml0
  have hown : s.vm.findClass "com/example/ledgerline/ledgerline/log/RetentionExpiredPinLaw" = some m.cls := findClass_of_methodNamed Bd.named
  have hnm := (name_of_methodNamed Bd.named Bd.method).1
  have X0 : Stand p l e ({ frames := 0, cells := 0, slots := 0, locals := 0 } : Room) s m #[(.long q1), (.long q2), (.long q3)] below meth c s₁ [] 0 0 := Stand.of_body Bd
  have e0 : s₁.heap = h0 := by rw [← hh, Bd.state]; rfl
  have N0 := Fr.nil n0
  obtain ⟨F0, hF0⟩ : ∃ F : JFrame, F = entryFrame m #[(.long q1), (.long q2), (.long q3)] 8 := ⟨_, rfl⟩
  have pre0 : ∀ t, Steps p.tables e below (s₁.setTop F0) t → Steps p.tables e below (s₁.setTop (entryFrame m #[(.long q1), (.long q2), (.long q3)] 8)) t := fun t k => hF0 ▸ k
  have go0 : Go p e below s₁ F0 s₁ (mkF m 0 #[vj q1, .second, vj q2, .second, vj q3, .second, .unset, .unset] []) := fun t k => castTop (hF0.trans (ef_6 m q1 q2 q3)) k
  have go1 : Go p e below s₁ F0 s₁ (mkF m 5 #[vj q1, .second, vj q2, .second, vj q3, .second, .unset, .unset] [(.int (lcmpW q1 (-1 : Int64)))]) := by
    intro t kt
    refine go0 t ?_
    refine o_lloadN X0 hx (hb hby d6_0) rfl ?_
    refine o_ldc2 X0 hx hown (mvT hZ (own_w hw 0 rfl)) (hb hby d6_1) ?_
    refine o_lcmp X0 hx (hb hby d6_4) ?_
    exact kt
  by_cases hc5_2 : q1 = (-1 : Int64)
  · skip
    have go3 : Go p e below s₁ F0 s₁ (mkF m 9 #[vj q1, .second, vj q2, .second, vj q3, .second, .unset, .unset] [(.int (0 : Int32))]) := by
      intro t kt
      refine go1 t ?_
      refine o_ifNo X0 hx (hb hby d6_5) ((if0 _ _).trans (teq ((lw_eq _ _).mpr hc5_2)).2) ?_
      refine o_iconst X0 hx (hb hby d6_8) (v := 0) rfl ?_
      exact kt
    obtain ⟨fs, hr, hrun, hended, hW, hsame⟩ := X0.leave (v := some (.int (0 : Int32))) (fun h => by rw [Bd.returns] at h; cases h)
    refine ⟨_, _, pre0 _ (go3 _ ?_), hrun, hended, _, _, rfl, ?_, ⟨_, rfl⟩, hW, hsame.mono (by decide) (by decide)⟩
    · skip
      exact retN X0 hx (t := .boolean) Bd.returns (by simp) (hb hby d6_9) hr
    · show Q6 Z q1 q2 q3 h0 n0 _ s₁.heap _
      rw [e0]
      exact ⟨(congrArg (fun z => some (Value.int z)) (show (0 : Int32) = f6 q1 q2 q3 from by unfold f6; rw [if_pos hc5_2])), N0, rfl⟩
  · skip
    have go4 : Go p e below s₁ F0 s₁ (mkF m 13 #[vj q1, .second, vj q2, .second, vj q3, .second, .unset, .unset] [(.int (lcmpW q2 (0 : Int64)))]) := by
      intro t kt
      refine go1 t ?_
      refine o_ifYes X0 hx (hb hby d6_5) (pc' := 10) rfl (by decide) ((if0 _ _).trans (feq (fun q => hc5_2 ((lw_eq _ _).mp q))).2) ?_
      refine o_lloadN X0 hx (hb hby d6_10) rfl ?_
      refine o_lconst X0 hx (hb hby d6_11) (v := 0) rfl ?_
      refine o_lcmp X0 hx (hb hby d6_12) ?_
      exact kt
    by_cases hc13_5 : q2 < (0 : Int64)
    · skip
      have go6 : Go p e below s₁ F0 s₁ (mkF m 17 #[vj q1, .second, vj q2, .second, vj q3, .second, .unset, .unset] [(.int (0 : Int32))]) := by
        intro t kt
        refine go4 t ?_
        refine o_ifNo X0 hx (hb hby d6_13) ((if0 _ _).trans (tlt ((lw_lt _ _).mpr hc13_5)).2.1) ?_
        refine o_iconst X0 hx (hb hby d6_16) (v := 0) rfl ?_
        exact kt
      obtain ⟨fs, hr, hrun, hended, hW, hsame⟩ := X0.leave (v := some (.int (0 : Int32))) (fun h => by rw [Bd.returns] at h; cases h)
      refine ⟨_, _, pre0 _ (go6 _ ?_), hrun, hended, _, _, rfl, ?_, ⟨_, rfl⟩, hW, hsame.mono (by decide) (by decide)⟩
      · skip
        exact retN X0 hx (t := .boolean) Bd.returns (by simp) (hb hby d6_17) hr
      · show Q6 Z q1 q2 q3 h0 n0 _ s₁.heap _
        rw [e0]
        exact ⟨(congrArg (fun z => some (Value.int z)) (show (0 : Int32) = f6 q1 q2 q3 from by unfold f6; rw [if_neg hc5_2, if_pos hc13_5])), N0, rfl⟩
    · skip
      have go7 : Go p e below s₁ F0 s₁ (mkF m 28 #[vj q1, .second, vj q2, .second, vj q3, .second, vj (q3 - q2), .second] [(.int (lcmpW (q3 - q2) q1))]) := by
        intro t kt
        refine go4 t ?_
        refine o_ifYes X0 hx (hb hby d6_13) (pc' := 18) rfl (by decide) ((if0 _ _).trans (flt (fun q => hc13_5 ((lw_lt _ _).mp q))).2.1) ?_
        refine o_lload X0 hx (hb hby d6_18) rfl ?_
        refine o_lloadN X0 hx (hb hby d6_20) rfl ?_
        refine o_lsub X0 hx (hb hby d6_21) ?_
        refine o_lstore X0 hx (hb hby d6_22) (L' := #[vj q1, .second, vj q2, .second, vj q3, .second, vj (q3 - q2), .second]) rfl ?_
        refine o_lload X0 hx (hb hby d6_24) rfl ?_
        refine o_lloadN X0 hx (hb hby d6_26) rfl ?_
        refine o_lcmp X0 hx (hb hby d6_27) ?_
        exact kt
      by_cases hc28_8 : q1 < (q3 - q2)
      · skip
        have go9 : Go p e below s₁ F0 s₁ (mkF m 36 #[vj q1, .second, vj q2, .second, vj q3, .second, vj (q3 - q2), .second] [(.int (1 : Int32))]) := by
          intro t kt
          refine go7 t ?_
          refine o_ifNo X0 hx (hb hby d6_28) ((if0 _ _).trans (tlt ((lw_gt _ _).mpr hc28_8)).2.2.2) ?_
          refine o_iconst X0 hx (hb hby d6_31) (v := 1) rfl ?_
          refine o_goto X0 hx (hb hby d6_32) (pc' := 36) rfl (by decide) ?_
          exact kt
        obtain ⟨fs, hr, hrun, hended, hW, hsame⟩ := X0.leave (v := some (.int (1 : Int32))) (fun h => by rw [Bd.returns] at h; cases h)
        refine ⟨_, _, pre0 _ (go9 _ ?_), hrun, hended, _, _, rfl, ?_, ⟨_, rfl⟩, hW, hsame.mono (by decide) (by decide)⟩
        · skip
          exact retN X0 hx (t := .boolean) Bd.returns (by simp) (hb hby d6_36) hr
        · show Q6 Z q1 q2 q3 h0 n0 _ s₁.heap _
          rw [e0]
          exact ⟨(congrArg (fun z => some (Value.int z)) (show (1 : Int32) = f6 q1 q2 q3 from by unfold f6; rw [if_neg hc5_2, if_neg hc13_5, if_pos hc28_8])), N0, rfl⟩
      · skip
        have go10 : Go p e below s₁ F0 s₁ (mkF m 36 #[vj q1, .second, vj q2, .second, vj q3, .second, vj (q3 - q2), .second] [(.int (0 : Int32))]) := by
          intro t kt
          refine go7 t ?_
          refine o_ifYes X0 hx (hb hby d6_28) (pc' := 35) rfl (by decide) ((if0 _ _).trans (flt (fun q => hc28_8 ((lw_gt _ _).mp q))).2.2.2) ?_
          refine o_iconst X0 hx (hb hby d6_35) (v := 0) rfl ?_
          exact kt
        obtain ⟨fs, hr, hrun, hended, hW, hsame⟩ := X0.leave (v := some (.int (0 : Int32))) (fun h => by rw [Bd.returns] at h; cases h)
        refine ⟨_, _, pre0 _ (go10 _ ?_), hrun, hended, _, _, rfl, ?_, ⟨_, rfl⟩, hW, hsame.mono (by decide) (by decide)⟩
        · skip
          exact retN X0 hx (t := .boolean) Bd.returns (by simp) (hb hby d6_36) hr
        · show Q6 Z q1 q2 q3 h0 n0 _ s₁.heap _
          rw [e0]
          exact ⟨(congrArg (fun z => some (Value.int z)) (show (0 : Int32) = f6 q1 q2 q3 from by unfold f6; rw [if_neg hc5_2, if_neg hc13_5, if_neg hc28_8])), N0, rfl⟩


theorem own_pos (q : Int64) : 0 ≤ (q &&& (9223372036854775807 : Int64)).toInt := by
  have h : (q &&& (9223372036854775807 : Int64)).toInt = q.toInt % 9223372036854775808 := c_maskL q (9223372036854775807 : Int64) 63 (by decide) (by decide)
  omega
theorem own_h1 {p : Int32} {q v : Int64} (h : v = (if (p &&& (3 : Int32)) = (0 : Int32) then (-1 : Int64) else (q &&& (9223372036854775807 : Int64)))) : ¬ v < (-1 : Int64) := by
  subst h
  split
  · decide
  · have := own_pos q
    simp only [Int64.lt_iff_toInt_lt, show (-1 : Int64).toInt = -1 from rfl, show (0 : Int64).toInt = 0 from rfl, show (1 : Int64).toInt = 1 from rfl]; omega
theorem own_h2 {p : Int32} {q v : Int64} (h : v = (if (p &&& (4 : Int32)) = (0 : Int32) then (q &&& (9223372036854775807 : Int64)) else (-1 : Int64))) : ¬ v < (-1 : Int64) := by
  subst h
  split
  · have := own_pos q
    simp only [Int64.lt_iff_toInt_lt, show (-1 : Int64).toInt = -1 from rfl, show (0 : Int64).toInt = 0 from rfl, show (1 : Int64).toInt = 1 from rfl]; omega
  · decide
theorem own_h3 {q v : Int64} (h : v = (f1 (1 : Int64) (q &&& (9223372036854775807 : Int64)))) : ¬ v < (1 : Int64) := by
  subst h
  unfold f1
  split
  · rename_i q; simp only [Int64.lt_iff_toInt_lt, show (-1 : Int64).toInt = -1 from rfl, show (0 : Int64).toInt = 0 from rfl, show (1 : Int64).toInt = 1 from rfl] at *; omega
  · decide
theorem own_law {p : Int32} {q q6 v n : Int64} (q5 : Int64) (h : v = (if (p &&& (3 : Int32)) = (0 : Int32) then (-1 : Int64) else (q &&& (9223372036854775807 : Int64)))) (hn : n = (q6 &&& (9223372036854775807 : Int64))) : f5 q5 n v = f6 v q5 n := by
  unfold f5 f6
  by_cases h1 : v = (-1 : Int64)
  · rw [if_pos h1, if_pos h1]
  · rw [if_neg h1, if_neg h1]
    by_cases h2 : q5 < (0 : Int64)
    · rw [if_pos h2, if_pos h2]
    · rw [if_neg h2, if_neg h2]
      have hv : 0 ≤ v.toInt := by
        rw [h] at h1 ⊢
        split at h1
        · exact absurd rfl h1
        · rename_i w; rw [if_neg w]; exact own_pos q
      have hn' : 0 ≤ n.toInt := by rw [hn]; exact own_pos q6
      have a1 := c_lsub n v; have a2 := c_lsub n q5
      have := (n - v).toInt_lt; have := (n - v).le_toInt; have := (n - q5).toInt_lt; have := (n - q5).le_toInt; have := n.toInt_lt; have := v.toInt_lt; have := q5.toInt_lt
      simp only [Int64.lt_iff_toInt_lt, show (-1 : Int64).toInt = -1 from rfl, show (0 : Int64).toInt = 0 from rfl, show (1 : Int64).toInt = 1 from rfl] at *
      by_cases h3 : q5.toInt < (n - v).toInt
      · rw [if_pos h3, if_pos (by omega)]
      · rw [if_neg h3, if_neg (by omega)]

theorem pn_0 : plainName "com/example/ledgerline/ledgerline/log/RetentionExpiredPinLaw" = true := by first | (simp [plainName, overriddenIn]; done) | decide +kernel
theorem pd0_0 : parseMethodDescriptor "(JJ)J" = some ⟨[.long, .long], some .long⟩ := by decide +kernel
theorem pd0_1 : parseMethodDescriptor "(JJJ)V" = some ⟨[.long, .long, .long], none⟩ := by decide +kernel
theorem pd0_2 : parseMethodDescriptor "(JJ)Z" = some ⟨[.long, .long], some .boolean⟩ := by decide +kernel
theorem pd0_3 : parseMethodDescriptor "(JJJ)Z" = some ⟨[.long, .long, .long], some .boolean⟩ := by decide +kernel
theorem ef_0 (m : MethodId) (x0 : Int32) (x1 : Int64) (x2 : Int64) (x3 : Int64) (x4 : Int64) (x5 : Int64) : entryFrame m #[(.int x0), (.long x1), (.long x2), (.long x3), (.long x4), (.long x5)] maxLocals = mkF m 0 #[vi x0, vj x1, .second, vj x2, .second, vj x3, .second, vj x4, .second, vj x5, .second, .unset, .unset, .unset, .unset, .unset, .unset, .unset, .unset, .unset, .unset] [] := by first | (simp [entryFrame, mkF, argsToLocals, Value.category, maxLocals]; done) | rfl
def Q0 (Z : State) (p1 : Int32) (q2 : Int64) (q3 : Int64) (q4 : Int64) (q5 : Int64) (q6 : Int64) (h0 : Heap) (n0 : Nat) (v : Option Value) (h : Heap) (L : List Loc) : Prop := v = some (.int (1 : Int32)) ∧ Fr n0 L
set_option maxRecDepth 65536 in
set_option maxHeartbeats 40000000 in
theorem rm0 (l : Launch) (Z : State) (a0 : Array Value) (hw : ∀ d ∈ tables_1, d.before a0 Z = true) (ws : List Jvm.Cond) (p1 : Int32) (q2 : Int64) (q3 : Int64) (q4 : Int64) (q5 : Int64) (q6 : Int64) (h0 : Heap) (n0 : Nat) (Z0 : n0 ≤ h0.size) :
    MetFree l x (head1 (Jvm.Cond.code x code maxLocals ret :: ws) room_1) (fun a U => a = #[(.int p1), (.long q2), (.long q3), (.long q4), (.long q5), (.long q6)] ∧ Z.Warmed39 U.vm ∧ U.heap = h0) (fun _ _ _ _ _ => True) (fun _ U o U' => ∃ v L, o = .returned v ∧ Q0 Z p1 q2 q3 q4 q5 q6 h0 n0 v U'.heap L ∧ FrameEnd U o U' L room_1.cells room_1.slots) := by
  refine MetFree.of_bodySF (plainFor_of_name pn_0) hisR ?_
  intro p e s m args below meth c s₁ Bd hml0 hP hK
  obtain ⟨rfl, hZ, hh⟩ := hP
  have hx := Bd.exec
  have hby := Bd.bytes
  have hml : c.maxLocals = 21 := hml0
  have hown : s.vm.findClass "com/example/ledgerline/ledgerline/log/RetentionExpiredPinLaw" = some m.cls := findClass_of_methodNamed Bd.named
  have hnm := (name_of_methodNamed Bd.named Bd.method).1
  have X0 : Stand p l e room_1 s m #[(.int p1), (.long q2), (.long q3), (.long q4), (.long q5), (.long q6)] below meth c s₁ [] 0 0 := Stand.of_body Bd
  have e0 : s₁.heap = h0 := by rw [← hh, Bd.state]; rfl
  have N0 := Fr.nil n0
  obtain ⟨F0, hF0⟩ : ∃ F : JFrame, F = entryFrame m #[(.int p1), (.long q2), (.long q3), (.long q4), (.long q5), (.long q6)] maxLocals := ⟨_, rfl⟩
  have pre0 : ∀ t, Steps p.tables e below (s₁.setTop F0) t → Steps p.tables e below (s₁.setTop (entryFrame m #[(.int p1), (.long q2), (.long q3), (.long q4), (.long q5), (.long q6)] maxLocals)) t := fun t k => hF0 ▸ k
  have go0 : Go p e below s₁ F0 s₁ (mkF m 0 #[vi p1, vj q2, .second, vj q3, .second, vj q4, .second, vj q5, .second, vj q6, .second, .unset, .unset, .unset, .unset, .unset, .unset, .unset, .unset, .unset, .unset] []) := fun t k => castTop (hF0.trans (ef_0 m p1 q2 q3 q4 q5 q6)) k
  have go1 : Go p e below s₁ F0 s₁ (mkF m 3 #[vi p1, vj q2, .second, vj q3, .second, vj q4, .second, vj q5, .second, vj q6, .second, .unset, .unset, .unset, .unset, .unset, .unset, .unset, .unset, .unset, .unset] [(.int (p1 &&& (3 : Int32)))]) := by
    intro t kt
    refine go0 t ?_
    refine o_iloadN X0 hx (hb hby at_0) rfl ?_
    refine o_iconst X0 hx (hb hby at_1) (v := 3) rfl ?_
    refine o_iand X0 hx (hb hby at_2) ?_
    exact kt
  have go3 : Go p e below s₁ F0 s₁ (mkF m 17 #[vi p1, vj q2, .second, vj q3, .second, vj q4, .second, vj q5, .second, vj q6, .second, .unset, .unset, .unset, .unset, .unset, .unset, .unset, .unset, .unset, .unset] [(.long (if (p1 &&& (3 : Int32)) = (0 : Int32) then (-1 : Int64) else (q2 &&& (9223372036854775807 : Int64))))]) := by
    intro t kt
    refine go1 t ?_
    by_cases hm3_2 : (p1 &&& (3 : Int32)) = (0 : Int32)
    · simp only [if_pos hm3_2] at kt
      refine o_ifNo X0 hx (hb hby at_3) ((if0 _ _).trans (teq hm3_2).2) ?_
      refine o_ldc2 X0 hx hown (mvT hZ (own_w hw 0 rfl)) (hb hby at_6) ?_
      refine o_goto X0 hx (hb hby at_9) (pc' := 17) rfl (by decide) ?_
      exact kt
    · simp only [if_neg hm3_2] at kt
      refine o_ifYes X0 hx (hb hby at_3) (pc' := 12) rfl (by decide) ((if0 _ _).trans (feq hm3_2).2) ?_
      refine o_lloadN X0 hx (hb hby at_12) rfl ?_
      refine o_ldc2 X0 hx hown (mvT hZ (own_w hw 1 rfl)) (hb hby at_13) ?_
      refine o_land X0 hx (hb hby at_16) ?_
      exact kt
  have go4 : Go p e below s₁ F0 s₁ (mkF m 19 #[vi p1, vj q2, .second, vj q3, .second, vj q4, .second, vj q5, .second, vj q6, .second, vj (if (p1 &&& (3 : Int32)) = (0 : Int32) then (-1 : Int64) else (q2 &&& (9223372036854775807 : Int64))), .second, .unset, .unset, .unset, .unset, .unset, .unset, .unset, .unset] []) := by
    intro t kt
    refine go3 t ?_
    refine o_lstore X0 hx (hb hby at_17) (L' := #[vi p1, vj q2, .second, vj q3, .second, vj q4, .second, vj q5, .second, vj q6, .second, vj (if (p1 &&& (3 : Int32)) = (0 : Int32) then (-1 : Int64) else (q2 &&& (9223372036854775807 : Int64))), .second, .unset, .unset, .unset, .unset, .unset, .unset, .unset, .unset]) rfl ?_
    exact kt
  obtain ⟨vm, h_vm⟩ : ∃ z : Int64, z = (if (p1 &&& (3 : Int32)) = (0 : Int32) then (-1 : Int64) else (q2 &&& (9223372036854775807 : Int64))) := ⟨_, rfl⟩
  have go5 : Go p e below s₁ F0 s₁ (mkF m 19 #[vi p1, vj q2, .second, vj q3, .second, vj q4, .second, vj q5, .second, vj q6, .second, vj vm, .second, .unset, .unset, .unset, .unset, .unset, .unset, .unset, .unset] []) := by rw [h_vm]; exact go4
  have go6 : Go p e below s₁ F0 s₁ (mkF m 22 #[vi p1, vj q2, .second, vj q3, .second, vj q4, .second, vj q5, .second, vj q6, .second, vj vm, .second, .unset, .unset, .unset, .unset, .unset, .unset, .unset, .unset] [(.int (p1 &&& (4 : Int32)))]) := by
    intro t kt
    refine go5 t ?_
    refine o_iloadN X0 hx (hb hby at_19) rfl ?_
    refine o_iconst X0 hx (hb hby at_20) (v := 4) rfl ?_
    refine o_iand X0 hx (hb hby at_21) ?_
    exact kt
  have go8 : Go p e below s₁ F0 s₁ (mkF m 36 #[vi p1, vj q2, .second, vj q3, .second, vj q4, .second, vj q5, .second, vj q6, .second, vj vm, .second, .unset, .unset, .unset, .unset, .unset, .unset, .unset, .unset] [(.long (if (p1 &&& (4 : Int32)) = (0 : Int32) then (q3 &&& (9223372036854775807 : Int64)) else (-1 : Int64)))]) := by
    intro t kt
    refine go6 t ?_
    by_cases hm22_7 : (p1 &&& (4 : Int32)) = (0 : Int32)
    · simp only [if_pos hm22_7] at kt
      refine o_ifYes X0 hx (hb hby at_22) (pc' := 31) rfl (by decide) ((if0 _ _).trans (teq hm22_7).1) ?_
      refine o_lloadN X0 hx (hb hby at_31) rfl ?_
      refine o_ldc2 X0 hx hown (mvT hZ (own_w hw 1 rfl)) (hb hby at_32) ?_
      refine o_land X0 hx (hb hby at_35) ?_
      exact kt
    · simp only [if_neg hm22_7] at kt
      refine o_ifNo X0 hx (hb hby at_22) ((if0 _ _).trans (feq hm22_7).1) ?_
      refine o_ldc2 X0 hx hown (mvT hZ (own_w hw 0 rfl)) (hb hby at_25) ?_
      refine o_goto X0 hx (hb hby at_28) (pc' := 36) rfl (by decide) ?_
      exact kt
  have go9 : Go p e below s₁ F0 s₁ (mkF m 38 #[vi p1, vj q2, .second, vj q3, .second, vj q4, .second, vj q5, .second, vj q6, .second, vj vm, .second, vj (if (p1 &&& (4 : Int32)) = (0 : Int32) then (q3 &&& (9223372036854775807 : Int64)) else (-1 : Int64)), .second, .unset, .unset, .unset, .unset, .unset, .unset] []) := by
    intro t kt
    refine go8 t ?_
    refine o_lstore X0 hx (hb hby at_36) (L' := #[vi p1, vj q2, .second, vj q3, .second, vj q4, .second, vj q5, .second, vj q6, .second, vj vm, .second, vj (if (p1 &&& (4 : Int32)) = (0 : Int32) then (q3 &&& (9223372036854775807 : Int64)) else (-1 : Int64)), .second, .unset, .unset, .unset, .unset, .unset, .unset]) rfl ?_
    exact kt
  obtain ⟨vb, h_vb⟩ : ∃ z : Int64, z = (if (p1 &&& (4 : Int32)) = (0 : Int32) then (q3 &&& (9223372036854775807 : Int64)) else (-1 : Int64)) := ⟨_, rfl⟩
  have go10 : Go p e below s₁ F0 s₁ (mkF m 38 #[vi p1, vj q2, .second, vj q3, .second, vj q4, .second, vj q5, .second, vj q6, .second, vj vm, .second, vj vb, .second, .unset, .unset, .unset, .unset, .unset, .unset] []) := by rw [h_vb]; exact go9
  have go11 : Go p e below s₁ F0 s₁ (mkF m 45 #[vi p1, vj q2, .second, vj q3, .second, vj q4, .second, vj q5, .second, vj q6, .second, vj vm, .second, vj vb, .second, .unset, .unset, .unset, .unset, .unset, .unset] [(.long (q4 &&& (9223372036854775807 : Int64))), (.long (1 : Int64))]) := by
    intro t kt
    refine go10 t ?_
    refine o_lconst X0 hx (hb hby at_38) (v := 1) rfl ?_
    refine o_lload X0 hx (hb hby at_39) rfl ?_
    refine o_ldc2 X0 hx hown (mvT hZ (own_w hw 1 rfl)) (hb hby at_41) ?_
    refine o_land X0 hx (hb hby at_44) ?_
    exact kt
  obtain ⟨_, _, ⟨T12, L12, k12, n12⟩, -, X12, ⟨Lc12, hQ12, l12, y12, z12⟩, st12⟩ := Jvm.LawKit.callS X0 hx (y := y_0) hown (mvT hZ (own_w hw 2 rfl)) (mvT hZ (own_w hw 3 rfl)) (mvT hZ (own_w hw 4 rfl)) (mvT hZ (own_w hw 5 rfl)) (by decide) (backOf (W := 0) (rm1 l Z a0 hw [] (1 : Int64) (q4 &&& (9223372036854775807 : Int64)) h0 n0 Z0 ) hZ (own_w hw 5 rfl) (own_w hw 4 rfl) (by decide) (by decide)) (g := (mkF m 45 #[vi p1, vj q2, .second, vj q3, .second, vj q4, .second, vj q5, .second, vj q6, .second, vj vm, .second, vj vb, .second, .unset, .unset, .unset, .unset, .unset, .unset] [(.long (q4 &&& (9223372036854775807 : Int64))), (.long (1 : Int64))])) rfl (by rw [hml]; rfl) (argsL := [(.long (1 : Int64)), (.long (q4 &&& (9223372036854775807 : Int64)))]) (rest := []) (lenOf pd0_0 rfl) rfl (by show 2 * 0 + _ ≤ _; exact Nat.le_of_eq rfl) (hb hby at_45) (fun _ _ => ⟨rfl, e0, (by decide : 0 + 0 ≤ _), (by decide : 0 + 0 ≤ _)⟩)
  dsimp only [Pt.U, Pt.locs, Pt.cells, Pt.slots] at X12 l12 y12 z12 st12 hQ12
  subst l12 y12 z12
  obtain ⟨rfl, Nq12, eh12⟩ := hQ12
  have N12 := Fr.app N0 Nq12
  have go13 : Go p e below s₁ F0 T12 (mkF m 48 #[vi p1, vj q2, .second, vj q3, .second, vj q4, .second, vj q5, .second, vj q6, .second, vj vm, .second, vj vb, .second, .unset, .unset, .unset, .unset, .unset, .unset] [(.long (f1 (1 : Int64) (q4 &&& (9223372036854775807 : Int64))))]) := fun t k => go11 t (st12 t k)
  have go14 : Go p e below s₁ F0 T12 (mkF m 50 #[vi p1, vj q2, .second, vj q3, .second, vj q4, .second, vj q5, .second, vj q6, .second, vj vm, .second, vj vb, .second, vj (f1 (1 : Int64) (q4 &&& (9223372036854775807 : Int64))), .second, .unset, .unset, .unset, .unset] []) := by
    intro t kt
    refine go13 t ?_
    refine o_lstore X12 hx (hb hby at_48) (L' := #[vi p1, vj q2, .second, vj q3, .second, vj q4, .second, vj q5, .second, vj q6, .second, vj vm, .second, vj vb, .second, vj (f1 (1 : Int64) (q4 &&& (9223372036854775807 : Int64))), .second, .unset, .unset, .unset, .unset]) rfl ?_
    exact kt
  obtain ⟨vc, h_vc⟩ : ∃ z : Int64, z = (f1 (1 : Int64) (q4 &&& (9223372036854775807 : Int64))) := ⟨_, rfl⟩
  have go15 : Go p e below s₁ F0 T12 (mkF m 50 #[vi p1, vj q2, .second, vj q3, .second, vj q4, .second, vj q5, .second, vj q6, .second, vj vm, .second, vj vb, .second, vj vc, .second, .unset, .unset, .unset, .unset] []) := by rw [h_vc]; exact go14
  have go16 : Go p e below s₁ F0 T12 (mkF m 58 #[vi p1, vj q2, .second, vj q3, .second, vj q4, .second, vj q5, .second, vj q6, .second, vj vm, .second, vj vb, .second, vj vc, .second, vj (q6 &&& (9223372036854775807 : Int64)), .second, .unset, .unset] []) := by
    intro t kt
    refine go15 t ?_
    refine o_lload X12 hx (hb hby at_50) rfl ?_
    refine o_ldc2 X12 hx hown (mvT hZ (own_w hw 1 rfl)) (hb hby at_52) ?_
    refine o_land X12 hx (hb hby at_55) ?_
    refine o_lstore X12 hx (hb hby at_56) (L' := #[vi p1, vj q2, .second, vj q3, .second, vj q4, .second, vj q5, .second, vj q6, .second, vj vm, .second, vj vb, .second, vj vc, .second, vj (q6 &&& (9223372036854775807 : Int64)), .second, .unset, .unset]) rfl ?_
    exact kt
  obtain ⟨vn, h_vn⟩ : ∃ z : Int64, z = (q6 &&& (9223372036854775807 : Int64)) := ⟨_, rfl⟩
  have go17 : Go p e below s₁ F0 T12 (mkF m 58 #[vi p1, vj q2, .second, vj q3, .second, vj q4, .second, vj q5, .second, vj q6, .second, vj vm, .second, vj vb, .second, vj vc, .second, vj vn, .second, .unset, .unset] []) := by rw [h_vn]; exact go16
  obtain ⟨T18, h18, X18, e18, E18, A18, D18, -, st18⟩ := newO X12 hx hZ hown (own_w hw 6 rfl) (own_w hw 7 rfl) (own_w hw 8 rfl) eh12 (g := (mkF m 58 #[vi p1, vj q2, .second, vj q3, .second, vj q4, .second, vj q5, .second, vj q6, .second, vj vm, .second, vj vb, .second, vj vc, .second, vj vn, .second, .unset, .unset] [])) rfl (hb hby at_58) (by decide) (by decide)
  obtain ⟨b18, gz18⟩ : ∃ z, z = h0.size := ⟨_, rfl⟩
  rw [← gz18] at A18 D18 st18
  have g_b18 : n0 ≤ b18 := Nat.le_trans Z0 (Nat.le_of_eq gz18.symm)
  have Z19 : n0 ≤ h18.size := Nat.le_trans Z0 E18.1
  have F20 : Fld Z h18 b18 c_0 "millis" "J" (.long (0 : Int64)) := D18 (Or.inr (own_w hw 22 rfl)) (ty := .long) (by decide)
  have F21 : Fld Z h18 b18 c_0 "bytes" "J" (.long (0 : Int64)) := D18 (Or.inr (own_w hw 24 rfl)) (ty := .long) (by decide)
  have F22 : Fld Z h18 b18 c_0 "checkMillis" "J" (.long (0 : Int64)) := D18 (Or.inr (own_w hw 26 rfl)) (ty := .long) (by decide)
  have go23 : Go p e below s₁ F0 T18 (mkF m 61 #[vi p1, vj q2, .second, vj q3, .second, vj q4, .second, vj q5, .second, vj q6, .second, vj vm, .second, vj vb, .second, vj vc, .second, vj vn, .second, .unset, .unset] [(.ref b18)]) := fun t k => go17 t (st18 t k)
  have go24 : Go p e below s₁ F0 T18 (mkF m 68 #[vi p1, vj q2, .second, vj q3, .second, vj q4, .second, vj q5, .second, vj q6, .second, vj vm, .second, vj vb, .second, vj vc, .second, vj vn, .second, .unset, .unset] [(.long vc), (.long vb), (.long vm), (.ref b18), (.ref b18)]) := by
    intro t kt
    refine go23 t ?_
    refine o_dup X18 hx (hb hby at_61) rfl ?_
    refine o_lload X18 hx (hb hby at_62) rfl ?_
    refine o_lload X18 hx (hb hby at_64) rfl ?_
    refine o_lload X18 hx (hb hby at_66) rfl ?_
    exact kt
  obtain ⟨_, _, ⟨T25, L25, k25, n25⟩, -, X25, ⟨Lc25, hQ25, l25, y25, z25⟩, st25⟩ := X18.specialBack hx (y := y_2) rfl hown (mvT hZ (own_w hw 9 rfl)) (mvT hZ (own_w hw 10 rfl)) (mvT hZ (own_w hw 11 rfl)) (by decide) (backOf (W := 1) (rm2 l Z a0 hw [] b18 vm vb vc h18 n0 Z19 A18 F20 F21 F22 g_b18 (own_h1 h_vm) (own_h2 h_vb) (own_h3 h_vc)) hZ (own_w hw 11 rfl) (own_w hw 8 rfl) (by decide) (by decide)) (g := (mkF m 68 #[vi p1, vj q2, .second, vj q3, .second, vj q4, .second, vj q5, .second, vj q6, .second, vj vm, .second, vj vb, .second, vj vc, .second, vj vn, .second, .unset, .unset] [(.long vc), (.long vb), (.long vm), (.ref b18), (.ref b18)])) rfl (by rw [hml]; rfl) (Steps.refl _) (a := b18) (argsL := [(.long vm), (.long vb), (.long vc)]) (rest := [(.ref b18)]) (lenOf pd0_1 rfl) rfl (by show 2 * 0 + _ ≤ _; exact Nat.le_of_eq rfl) (hb hby at_68) (fun _ _ => ⟨rfl, e18, (by decide : 1 + 0 ≤ _), (by decide : 3 + 0 ≤ _)⟩)
  dsimp only [Pt.U, Pt.locs, Pt.cells, Pt.slots] at X25 l25 y25 z25 st25 hQ25
  subst l25 y25 z25
  obtain ⟨rfl, Nq25, Kc25, F1_25⟩ := hQ25
  have N25 := Fr.app N12 Nq25
  have Z26 : n0 ≤ T25.heap.size := Nat.le_trans Z19 Kc25.1
  have go27 : Go p e below s₁ F0 T25 (mkF m 71 #[vi p1, vj q2, .second, vj q3, .second, vj q4, .second, vj q5, .second, vj q6, .second, vj vm, .second, vj vb, .second, vj vc, .second, vj vn, .second, .unset, .unset] [(.ref b18)]) := fun t k => go24 t (st25.trans k)
  have go28 : Go p e below s₁ F0 T25 (mkF m 79 #[vi p1, vj q2, .second, vj q3, .second, vj q4, .second, vj q5, .second, vj q6, .second, vj vm, .second, vj vb, .second, vj vc, .second, vj vn, .second, vr b18, .unset] [(.long vn), (.long q5), (.ref b18)]) := by
    intro t kt
    refine go27 t ?_
    refine o_astore X25 hx (hb hby at_71) rfl (L' := #[vi p1, vj q2, .second, vj q3, .second, vj q4, .second, vj q5, .second, vj q6, .second, vj vm, .second, vj vb, .second, vj vc, .second, vj vn, .second, vr b18, .unset]) rfl ?_
    refine o_aload X25 hx (hb hby at_73) rfl rfl ?_
    refine o_lload X25 hx (hb hby at_75) rfl ?_
    refine o_lload X25 hx (hb hby at_77) rfl ?_
    exact kt
  have F30 : Exa Z T25.heap b18 c_0 := (A18.keep Kc25)
  obtain ⟨cq29, kq29, q29a, q29b, q29c⟩ := isOf hZ rfl F30
  obtain ⟨_, _, ⟨T29, L29, k29, n29⟩, -, X29, ⟨Lc29, hQ29, l29, y29, z29⟩, st29⟩ := X25.virtualBack hx (y := y_3) (z := y_3) hown (mvT hZ (own_w hw 27 rfl)) (mvT hZ (own_w hw 28 rfl)) (notFace_of_selects (args := #[]) (mvT hZ (own_w hw 30 rfl))) (mvT hZ (own_w hw 30 rfl)) (mvT hZ (own_w hw 29 rfl)) (by decide) (backOf (W := 0) (rm5 l Z a0 hw [] b18 q5 vn vm (T25.heap) n0 Z26 F1_25) hZ (own_w hw 31 rfl) (own_w hw 8 rfl) (by decide) (by decide)) q29a q29c (g := (mkF m 79 #[vi p1, vj q2, .second, vj q3, .second, vj q4, .second, vj q5, .second, vj q6, .second, vj vm, .second, vj vb, .second, vj vc, .second, vj vn, .second, vr b18, .unset] [(.long vn), (.long q5), (.ref b18)])) rfl (by rw [hml]; rfl) (Steps.refl _) (argsL := [(.long q5), (.long vn)]) (rest := []) (lenOf pd0_2 rfl) rfl (by show 2 * 0 + _ ≤ _; exact Nat.le_of_eq rfl) (hb hby at_79) (fun _ _ => ⟨rfl, rfl, (by decide : 1 + 0 ≤ _), (by decide : 3 + 0 ≤ _)⟩)
  dsimp only [Pt.U, Pt.locs, Pt.cells, Pt.slots] at X29 l29 y29 z29 st29 hQ29
  subst l29 y29 z29
  obtain ⟨rfl, Nq29, eh29⟩ := hQ29
  have N29 := Fr.app N25 Nq29
  have go31 : Go p e below s₁ F0 T29 (mkF m 82 #[vi p1, vj q2, .second, vj q3, .second, vj q4, .second, vj q5, .second, vj q6, .second, vj vm, .second, vj vb, .second, vj vc, .second, vj vn, .second, vr b18, .unset] [(.int (f5 q5 vn vm))]) := fun t k => go28 t (st29.trans k)
  have go32 : Go p e below s₁ F0 T29 (mkF m 92 #[vi p1, vj q2, .second, vj q3, .second, vj q4, .second, vj q5, .second, vj q6, .second, vj vm, .second, vj vb, .second, vj vc, .second, vj vn, .second, vr b18, vi (f5 q5 vn vm)] [(.long vn), (.long q5), (.long vm), (.int (f5 q5 vn vm))]) := by
    intro t kt
    refine go31 t ?_
    refine o_istore X29 hx (hb hby at_82) (L' := #[vi p1, vj q2, .second, vj q3, .second, vj q4, .second, vj q5, .second, vj q6, .second, vj vm, .second, vj vb, .second, vj vc, .second, vj vn, .second, vr b18, vi (f5 q5 vn vm)]) rfl ?_
    refine o_iload X29 hx (hb hby at_84) rfl ?_
    refine o_lload X29 hx (hb hby at_86) rfl ?_
    refine o_lload X29 hx (hb hby at_88) rfl ?_
    refine o_lload X29 hx (hb hby at_90) rfl ?_
    exact kt
  obtain ⟨_, _, ⟨T33, L33, k33, n33⟩, -, X33, ⟨Lc33, hQ33, l33, y33, z33⟩, st33⟩ := Jvm.LawKit.callS X29 hx (y := y_4) hown (mvT hZ (own_w hw 32 rfl)) (mvT hZ (own_w hw 33 rfl)) (mvT hZ (own_w hw 34 rfl)) (mvT hZ (own_w hw 35 rfl)) (by decide) (backOf (W := 1) (rm6 l Z a0 hw [] vm q5 vn (T25.heap) n0 Z26 ) hZ (own_w hw 35 rfl) (own_w hw 34 rfl) (by decide) (by decide)) (g := (mkF m 92 #[vi p1, vj q2, .second, vj q3, .second, vj q4, .second, vj q5, .second, vj q6, .second, vj vm, .second, vj vb, .second, vj vc, .second, vj vn, .second, vr b18, vi (f5 q5 vn vm)] [(.long vn), (.long q5), (.long vm), (.int (f5 q5 vn vm))])) rfl (by rw [hml]; rfl) (argsL := [(.long vm), (.long q5), (.long vn)]) (rest := [(.int (f5 q5 vn vm))]) (lenOf pd0_3 rfl) rfl (by show 2 * 0 + _ ≤ _; exact Nat.le_of_eq rfl) (hb hby at_92) (fun _ _ => ⟨rfl, eh29, (by decide : 1 + 0 ≤ _), (by decide : 3 + 0 ≤ _)⟩)
  dsimp only [Pt.U, Pt.locs, Pt.cells, Pt.slots] at X33 l33 y33 z33 st33 hQ33
  subst l33 y33 z33
  obtain ⟨rfl, Nq33, eh33⟩ := hQ33
  have N33 := Fr.app N29 Nq33
  have go34 : Go p e below s₁ F0 T33 (mkF m 95 #[vi p1, vj q2, .second, vj q3, .second, vj q4, .second, vj q5, .second, vj q6, .second, vj vm, .second, vj vb, .second, vj vc, .second, vj vn, .second, vr b18, vi (f5 q5 vn vm)] [(.int (f6 vm q5 vn)), (.int (f5 q5 vn vm))]) := fun t k => go32 t (st33 t k)
  have hd35 : (f5 q5 vn vm) = (f6 vm q5 vn) := own_law _ h_vm h_vn
  have go36 : Go p e below s₁ F0 T33 (mkF m 103 #[vi p1, vj q2, .second, vj q3, .second, vj q4, .second, vj q5, .second, vj q6, .second, vj vm, .second, vj vb, .second, vj vc, .second, vj vn, .second, vr b18, vi (f5 q5 vn vm)] [(.int (1 : Int32))]) := by
    intro t kt
    refine go34 t ?_
    refine o_icmpNo X33 hx (hb hby at_95) (teq hd35).2 ?_
    refine o_iconst X33 hx (hb hby at_98) (v := 1) rfl ?_
    refine o_goto X33 hx (hb hby at_99) (pc' := 103) rfl (by decide) ?_
    exact kt
  obtain ⟨fs, hr, hrun, hended, hW, hsame⟩ := X33.leave (v := some (.int (1 : Int32))) (fun h => by rw [Bd.returns] at h; cases h)
  refine ⟨_, _, pre0 _ (go36 _ ?_), hrun, hended, _, _, rfl, ?_, ⟨_, rfl⟩, hW, hsame.mono (by decide) (by decide)⟩
  · skip
    exact retN X33 hx (t := .boolean) Bd.returns (by simp) (hb hby at_103) hr
  · show Q0 Z p1 q2 q3 q4 q5 q6 h0 n0 _ T33.heap _
    rw [eh33]
    exact ⟨rfl, N33⟩

set_option maxRecDepth 65536 in
set_option maxHeartbeats 40000000 in
theorem comes_1 {Post : Tables → Env → Array Value → State → Outcome → State → Prop} (hpost : ∀ tb e args s v u, (limb_1_1.after args s (.returned v) u = true ∧ limb_1_2.after args s (.returned v) u = true ∧ True) → FrameEnd s (.returned v) u (Jvm.fieldLocs frame_1_writes args s ++ Jvm.arrayLocs frame_1_arrays args s ++ Jvm.staticLocs frame_1_statics s) 16 128 → Post tb e args s (.returned v) u) :
    ArmFor flags0 classFile x code maxLocals ret World_1 tables_1 room_1 Calls_1 rest_1 Pre_1 Post := by
  intro l hfl _ _ p e ha hc hk s m args below hf hA hF happ hP
  obtain ⟨hcalls, hrest, hpre⟩ := hP
  obtain ⟨-, -, -, hnamed, -, -, -, hat⟩ := (Spec.applies_iff hf).mp happ
  obtain ⟨hg, hn⟩ := and_e (Cond.before_iff.mp (show (Jvm.Cond.and given_1 narrow_1).before args s = true from hpre))
  obtain ⟨g1, g2⟩ := and_e hg
  obtain ⟨g3, g4⟩ := and_e g2
  obtain ⟨g5, g6⟩ := and_e g4
  obtain ⟨g7, g8⟩ := and_e g6
  obtain ⟨g9, g10⟩ := and_e g8
  obtain ⟨g11, g12⟩ := and_e g10
  obtain ⟨w0, w1, w2, w3, w4, w5, rfl⟩ : ∃ w0 w1 w2 w3 w4 w5 : Value, args = #[w0, w1, w2, w3, w4, w5] := by
    have hs : args.size = 6 := by simpa [Cond.value, given_1] using g1
    obtain ⟨L⟩ := args
    match L, hs with
    | [w0, w1, w2, w3, w4, w5], _ => exact ⟨w0, w1, w2, w3, w4, w5, rfl⟩
  have hw := fun d (hd : d ∈ tables_1) => atoms_spec (ws := Jvm.Cond.code x code maxLocals ret :: tables_1) hat d (List.mem_cons_of_mem _ hd)
  have hfit : Fit s := fun {y c} hc i hi => by
    obtain ⟨ha, rfl⟩ := Array.getElem?_eq_some_iff.mp hc
    have q := List.all_eq_true.mp ((Array.all_eq_true_iff_forall_mem.mp hF) _ (Array.getElem_mem ha)) i (List.mem_range.mpr hi)
    simpa [Array.getElem?_eq_getElem hi] using q
  obtain ⟨i0, ei0⟩ := is_v g3
  obtain rfl : w0 = (.int i0) := Option.some.inj ei0
  obtain ⟨i1, ei1⟩ := isL_v g5
  obtain rfl : w1 = (.long i1) := Option.some.inj ei1
  obtain ⟨i2, ei2⟩ := isL_v g7
  obtain rfl : w2 = (.long i2) := Option.some.inj ei2
  obtain ⟨i3, ei3⟩ := isL_v g9
  obtain rfl : w3 = (.long i3) := Option.some.inj ei3
  obtain ⟨i4, ei4⟩ := isL_v g11
  obtain rfl : w4 = (.long i4) := Option.some.inj ei4
  obtain ⟨i5, ei5⟩ := isL_v g12
  obtain rfl : w5 = (.long i5) := Option.some.inj ei5
  obtain ⟨n, o, h1, h2, h3, _, L, rfl, ⟨rfl, N⟩, hq⟩ := rm0 l s _ hw tables_1 i0 i1 i2 i3 i4 i5  s.heap s.heap.size (Nat.le_refl _)  p e ha hc hk s m _ below hf ((Spec.applies_iff_loose hf).mp happ).1 ⟨rfl, State.Warmed39.refl s, rfl⟩ trivial
  refine ⟨n, _, h1, h2, h3, hpost _ _ _ _ _ _ ⟨Cond.after_iff.mpr rfl, Cond.after_iff.mpr (eq_i res_at (Term.int_eval (1)) rfl), trivial⟩ ⟨hq.1, hq.2.1, (hq.2.2.sift fun y hy => Or.inr (N y hy)).mono (by decide) (by decide)⟩⟩
theorem main_1_1 : Claimed_1_1 := comes_1 fun _ _ _ _ _ _ h hF => ⟨h.1, hF⟩
theorem main_1_2 : Claimed_1_2 := comes_1 fun _ _ _ _ _ _ h hF => ⟨h.2.1, hF⟩
end Jvm.Pilot.@@N@@
namespace Jvm.Pilot.@@N@@
open Jvm Jvm.ClassFile Sem Op Lib Jvm.Free Jvm.Stand Jvm.Pilot.@@N@@.Jvm.D
/-! MADE BY PROGRAM (witnessworld.py) out of the Statement's table words and the real class files: 11 classes; the members and pool entries that the words name. The judged class is class 1, her method 1. -/
namespace start1
open Jvm.ClassFile
def u (s : String) : CpInfo := .utf8 (stringToUtf16 s)
/-- a pool by its gaps: so many unusable entries, then the entry; so many at the end -/
def gap : Nat → List CpInfo → List CpInfo
  | 0, r => r
  | n + 1, r => .unusable :: gap n r
def poolList (es : List (Nat × CpInfo)) (last : Nat) : List CpInfo := es.foldr (fun e r => gap e.1 (e.2 :: r)) (gap last [])
def pool (es : List (Nat × CpInfo)) (last : Nat) : Array CpInfo := ⟨poolList es last⟩
def fileOf (pool : Array CpInfo) (this : Nat) (attrs : Array Attribute := #[]) (ms : Array MethodInfo := #[]) (fl : Nat := 33) (sup : Nat := 0) (ifs : Array Nat := #[]) (fds : Array FieldInfo := #[]) : ClassFile where
  minorVersion := 0
  majorVersion := 65
  constantPool := pool
  accessFlags := fl
  thisClass := this
  superClass := sup
  interfaces := ifs
  fields := fds
  methods := ms
  attributes := attrs
def plain (name : String) (sup : Option ClassId) : Class where
  name := name
  kind := .ordinary
  loader := none
  accessFlags := 33
  super := sup
  interfaces := #[]
  cf := none
  fields := #[]
  methods := #[]
  instanceTypes := #[]
  staticTypes := #[]
  resolved := #[]
  callSites := []
  init := .initialized
  statics := none
  mirror := none

def pool0 : Array CpInfo := pool [(5, u "<init>"), (0, u "()V"), (1, .class_ 10), (1, u "java/lang/Object")] 113

def k0c0 : Code := { maxStack := 0, maxLocals := 1, code := object_method_1_code, exceptionTable := #[], attributes := #[] }
def k0m0 : Method := { name := "<init>", desc := "()V", sig := { parameters := [], returnType := none }, accessFlags := 1, code := some k0c0 }
/-- java/lang/Object -/
def k0 : Class := { plain "java/lang/Object" none with
  accessFlags := 33
  interfaces := #[]
  cf := some (fileOf pool0 8 #[] #[{ accessFlags := 1, nameIndex := 5, descriptorIndex := 6, attributes := #[] }] 33 0 #[] #[])
  fields := #[]
  methods := #[k0m0]
  instanceTypes := #[]
  staticTypes := #[]
  resolved := Array.replicate 124 none
  statics := none }

def pool1 : Array CpInfo := pool [(2, .class_ 4), (1, u "java/lang/Object"), (0, u "<init>"), (0, u "()V"), (0, .class_ 8), (0, u "com/example/ledgerline/ledgerline/log/Retention"), (0, .long 18446744073709551615), (3, .long 9223372036854775807), (1, .methodref 16 17), (0, .class_ 18), (0, .nameAndType 19 20), (0, u "java/lang/Math"), (0, u "max"), (0, u "(JJ)J"), (0, .methodref 7 22), (0, .nameAndType 5 23), (0, u "(JJJ)V"), (0, .methodref 7 25), (0, .nameAndType 26 27), (0, u "expired"), (0, u "(JJ)Z"), (0, .methodref 29 30), (0, .class_ 31), (0, .nameAndType 32 33), (0, u "com/example/ledgerline/ledgerline/log/RetentionExpiredPinLaw"), (0, u "reference"), (0, u "(JJJ)Z"), (2, u "law"), (0, u "(IJJJJJ)Z")] 3

def k1m0 : Method := { name := "<init>", desc := "()V", sig := { parameters := [], returnType := none }, accessFlags := 1, code := none }
def k1c1 : Code := { maxStack := 8, maxLocals := 21, code := code, exceptionTable := #[], attributes := #[] }
def k1m1 : Method := { name := "law", desc := "(IJJJJJ)Z", sig := { parameters := [.int, .long, .long, .long, .long, .long], returnType := some .boolean }, accessFlags := 9, code := some k1c1 }
def k1c2 : Code := { maxStack := 4, maxLocals := 8, code := method_3_code, exceptionTable := #[], attributes := #[] }
def k1m2 : Method := { name := "reference", desc := "(JJJ)Z", sig := { parameters := [.long, .long, .long], returnType := some .boolean }, accessFlags := 10, code := some k1c2 }
/-- com/example/ledgerline/ledgerline/log/RetentionExpiredPinLaw -/
def k1 : Class := { plain "com/example/ledgerline/ledgerline/log/RetentionExpiredPinLaw" (some 0) with
  accessFlags := 49
  interfaces := #[]
  cf := some (fileOf pool1 29 #[] #[{ accessFlags := 1, nameIndex := 5, descriptorIndex := 6, attributes := #[] }, { accessFlags := 9, nameIndex := 36, descriptorIndex := 37, attributes := #[] }, { accessFlags := 10, nameIndex := 32, descriptorIndex := 33, attributes := #[] }] 49 2 #[] #[])
  fields := #[]
  methods := #[k1m0, k1m1, k1m2]
  instanceTypes := #[]
  staticTypes := #[]
  resolved := Array.replicate 41 none
  statics := none }

def pool2 : Array CpInfo := pool [(1, .class_ 2), (0, u "java/lang/Math"), (1, .class_ 6), (1, u "java/lang/Object"), (0, u "<init>"), (0, u "()V"), (89, .class_ 100), (1, u "java/lang/Math$RandomNumberGeneratorHolder"), (20, u "(JJ)J"), (50, u "negativeZeroFloatBits"), (0, u "J"), (2, u "negativeZeroDoubleBits"), (21, u "max"), (46, u "$assertionsDisabled"), (0, u "Z"), (91, u "twoToTheDoubleScaleDown"), (0, u "D"), (4, u "twoToTheDoubleScaleUp"), (9, u "E"), (3, u "PI"), (2, u "TAU"), (2, u "DEGREES_TO_RADIANS"), (0, u "RADIANS_TO_DEGREES")] 94

def k2m0 : Method := { name := "<init>", desc := "()V", sig := { parameters := [], returnType := none }, accessFlags := 2, code := none }
def k2c1 : Code := { maxStack := 4, maxLocals := 4, code := jdk_29_method_66_code, exceptionTable := #[], attributes := #[] }
def k2m1 : Method := { name := "max", desc := "(JJ)J", sig := { parameters := [.long, .long], returnType := some .long }, accessFlags := 9, code := some k2c1 }
/-- java/lang/Math -/
def k2 : Class := { plain "java/lang/Math" (some 0) with
  accessFlags := 49
  interfaces := #[]
  cf := some (fileOf pool2 1 #[.nestMembers #[98]] #[{ accessFlags := 2, nameIndex := 7, descriptorIndex := 8, attributes := #[] }, { accessFlags := 9, nameIndex := 198, descriptorIndex := 121, attributes := #[] }] 49 4 #[] #[{ accessFlags := 25, nameIndex := 354, descriptorIndex := 339, attributes := #[] }, { accessFlags := 25, nameIndex := 358, descriptorIndex := 339, attributes := #[] }, { accessFlags := 25, nameIndex := 361, descriptorIndex := 339, attributes := #[] }, { accessFlags := 26, nameIndex := 364, descriptorIndex := 339, attributes := #[] }, { accessFlags := 26, nameIndex := 365, descriptorIndex := 339, attributes := #[] }, { accessFlags := 26, nameIndex := 172, descriptorIndex := 173, attributes := #[] }, { accessFlags := 26, nameIndex := 176, descriptorIndex := 173, attributes := #[] }, { accessFlags := 8, nameIndex := 344, descriptorIndex := 339, attributes := #[] }, { accessFlags := 8, nameIndex := 338, descriptorIndex := 339, attributes := #[] }, { accessFlags := 4120, nameIndex := 245, descriptorIndex := 246, attributes := #[] }])
  fields := #[{ name := "E", type := .double, accessFlags := 25, slot := 0, constantValue := 0 }, { name := "PI", type := .double, accessFlags := 25, slot := 1, constantValue := 0 }, { name := "TAU", type := .double, accessFlags := 25, slot := 2, constantValue := 0 }, { name := "DEGREES_TO_RADIANS", type := .double, accessFlags := 26, slot := 3, constantValue := 0 }, { name := "RADIANS_TO_DEGREES", type := .double, accessFlags := 26, slot := 4, constantValue := 0 }, { name := "negativeZeroFloatBits", type := .long, accessFlags := 26, slot := 5, constantValue := 0 }, { name := "negativeZeroDoubleBits", type := .long, accessFlags := 26, slot := 6, constantValue := 0 }, { name := "twoToTheDoubleScaleUp", type := .double, accessFlags := 8, slot := 7, constantValue := 0 }, { name := "twoToTheDoubleScaleDown", type := .double, accessFlags := 8, slot := 8, constantValue := 0 }, { name := "$assertionsDisabled", type := .boolean, accessFlags := 4120, slot := 9, constantValue := 0 }]
  methods := #[k2m0, k2m1]
  instanceTypes := #[]
  staticTypes := #[.double, .double, .double, .double, .double, .long, .long, .double, .double, .boolean]
  resolved := Array.replicate 460 none
  statics := none }

def pool3 : Array CpInfo := pool [(1, .methodref 2 3), (0, .class_ 4), (0, .nameAndType 5 6), (0, u "java/lang/Object"), (0, u "<init>"), (0, u "()V"), (0, .class_ 8), (0, u "java/lang/Record")] 13

def k3c0 : Code := { maxStack := 1, maxLocals := 1, code := jdk_30_method_1_code, exceptionTable := #[], attributes := #[] }
def k3m0 : Method := { name := "<init>", desc := "()V", sig := { parameters := [], returnType := none }, accessFlags := 4, code := some k3c0 }
/-- java/lang/Record -/
def k3 : Class := { plain "java/lang/Record" (some 0) with
  accessFlags := 1057
  interfaces := #[]
  cf := some (fileOf pool3 7 #[] #[{ accessFlags := 4, nameIndex := 5, descriptorIndex := 6, attributes := #[] }] 1057 2 #[] #[])
  fields := #[]
  methods := #[k3m0]
  instanceTypes := #[]
  staticTypes := #[]
  resolved := Array.replicate 22 none
  statics := none }

def pool4 : Array CpInfo := pool [(1, .methodref 2 3), (0, .class_ 4), (0, .nameAndType 5 6), (0, u "java/lang/Record"), (0, u "<init>"), (0, u "()V"), (0, .class_ 8), (0, u "com/example/ledgerline/ledgerline/log/Retention"), (0, .long 18446744073709551615), (26, .fieldref 7 37), (0, .nameAndType 38 39), (0, u "millis"), (0, u "J"), (0, .fieldref 7 41), (0, .nameAndType 42 39), (0, u "bytes"), (0, .fieldref 7 44), (0, .nameAndType 45 39), (0, u "checkMillis"), (16, u "(JJJ)V"), (2, u "FOREVER"), (0, u "Lcom/example/ledgerline/ledgerline/log/Retention;"), (0, u "NO_LIMIT"), (1, u "DEFAULT_CHECK_MILLIS"), (6, u "expired"), (0, u "(JJ)Z")] 29

def k4c0 : Code := { maxStack := 8, maxLocals := 7, code := prog_46_method_1_code, exceptionTable := #[], attributes := #[] }
def k4m0 : Method := { name := "<init>", desc := "(JJJ)V", sig := { parameters := [.long, .long, .long], returnType := none }, accessFlags := 1, code := some k4c0 }
def k4c1 : Code := { maxStack := 6, maxLocals := 5, code := prog_46_method_3_code, exceptionTable := #[], attributes := #[] }
def k4m1 : Method := { name := "expired", desc := "(JJ)Z", sig := { parameters := [.long, .long], returnType := some .boolean }, accessFlags := 0, code := some k4c1 }
/-- com/example/ledgerline/ledgerline/log/Retention -/
def k4 : Class := { plain "com/example/ledgerline/ledgerline/log/Retention" (some 3) with
  accessFlags := 49
  interfaces := #[]
  cf := some (fileOf pool4 7 #[] #[{ accessFlags := 1, nameIndex := 5, descriptorIndex := 62, attributes := #[] }, { accessFlags := 0, nameIndex := 76, descriptorIndex := 77, attributes := #[] }] 49 2 #[] #[{ accessFlags := 18, nameIndex := 38, descriptorIndex := 39, attributes := #[] }, { accessFlags := 18, nameIndex := 42, descriptorIndex := 39, attributes := #[] }, { accessFlags := 18, nameIndex := 45, descriptorIndex := 39, attributes := #[] }, { accessFlags := 25, nameIndex := 67, descriptorIndex := 39, attributes := #[] }, { accessFlags := 25, nameIndex := 69, descriptorIndex := 39, attributes := #[] }, { accessFlags := 25, nameIndex := 65, descriptorIndex := 66, attributes := #[] }])
  fields := #[{ name := "millis", type := .long, accessFlags := 18, slot := 0, constantValue := 0 }, { name := "bytes", type := .long, accessFlags := 18, slot := 1, constantValue := 0 }, { name := "checkMillis", type := .long, accessFlags := 18, slot := 2, constantValue := 0 }, { name := "NO_LIMIT", type := .long, accessFlags := 25, slot := 0, constantValue := 0 }, { name := "DEFAULT_CHECK_MILLIS", type := .long, accessFlags := 25, slot := 1, constantValue := 0 }, { name := "FOREVER", type := (.object "com/example/ledgerline/ledgerline/log/Retention"), accessFlags := 25, slot := 2, constantValue := 0 }]
  methods := #[k4m0, k4m1]
  instanceTypes := #[.long, .long, .long]
  staticTypes := #[.long, .long, (.object "com/example/ledgerline/ledgerline/log/Retention")]
  resolved := Array.replicate 107 none
  statics := none }

def pool5 : Array CpInfo := pool [(1, u "java/lang/Cloneable"), (0, .class_ 1), (0, u "java/lang/Object"), (0, .class_ 3)] 3

/-- java/lang/Cloneable -/
def k5 : Class := { plain "java/lang/Cloneable" (some 0) with
  accessFlags := 1537
  interfaces := #[]
  cf := some (fileOf pool5 2 #[] #[] 1537 4 #[] #[])
  fields := #[]
  methods := #[]
  instanceTypes := #[]
  staticTypes := #[]
  resolved := Array.replicate 8 none
  statics := none }

def pool6 : Array CpInfo := pool [(1, u "java/io/Serializable"), (0, .class_ 1), (0, u "java/lang/Object"), (0, .class_ 3)] 3

/-- java/io/Serializable -/
def k6 : Class := { plain "java/io/Serializable" (some 0) with
  accessFlags := 1537
  interfaces := #[]
  cf := some (fileOf pool6 2 #[] #[] 1537 4 #[] #[])
  fields := #[]
  methods := #[]
  instanceTypes := #[]
  staticTypes := #[]
  resolved := Array.replicate 8 none
  statics := none }

/-- the primitive byte -/
def k7 : Class := { plain "byte" none with kind := .primitive 'B', accessFlags := 0x411 }
/-- [B -/
def k8 : Class := { plain "[B" (some 0) with kind := .array 7 .byte, interfaces := #[5, 6], accessFlags := 1041 }

/-- the primitive int -/
def k9 : Class := { plain "int" none with kind := .primitive 'I', accessFlags := 0x411 }
/-- [I -/
def k10 : Class := { plain "[I" (some 0) with kind := .array 9 .int, interfaces := #[5, 6], accessFlags := 1041 }

def heap : Heap := #[]
def classes : Array Class := #[k0, k1, k2, k3, k4, k5, k6, k7, k8, k9, k10]
def interned : List (Array UInt16 × Addr) := []
def slotsUsed : Nat := 0
def theMethod : MethodId := ⟨1, 1⟩
def args0 : Array Value := #[.int 5, .long 5, .long 5, .long 5, .long 5, .long 5]
def aboutOver (below : List Frame) : State where
  vm := { classes := classes, interned := interned.toArray }
  heap := heap
  slotsUsed := slotsUsed
  threads := #[{ frames := .invoking theMethod args0 :: below }]
def below0 : List Frame := [.native { method := ⟨0, 0⟩, args := #[] }]
def about1 : State := aboutOver below0
def p0 : Program := .bare "" "" ""
def e0 : Env := launch0.env 0 0 0
theorem w_frames : about1.frames = Frame.invoking theMethod args0 :: below0 := rfl
set_option maxRecDepth 65536 in
theorem w_args : argsFit about1.vm theMethod args0 = true := by decide +kernel
set_option maxRecDepth 65536 in
theorem w_heap : heapFits about1 = true := by decide +kernel
set_option maxRecDepth 65536 in
theorem w_runnable : about1.curStatus? = some .runnable := by decide +kernel
set_option maxRecDepth 65536 in
theorem w_alone : about1.alone = true := by decide +kernel
set_option maxRecDepth 65536 in
theorem w_named : about1.methodNamed? x = some theMethod := by decide +kernel
set_option maxRecDepth 65536 in
theorem w_hears : about1.hears theMethod below0 = true := by decide +kernel
set_option maxRecDepth 65536 in
theorem w_ripe : about1.ripe theMethod args0 below0 = true := by decide +kernel
theorem w_running : about1.status = .running := rfl
set_option maxRecDepth 65536 in
theorem w_room : about1.hasRoom e0.platform room_1 = true :=
  launch0.hasRoom_least _ room_1 (by decide +kernel) (by decide +kernel) (by decide +kernel) (by decide +kernel) (by decide +kernel) (by decide +kernel)
theorem allAtoms_all (ts : List Jvm.Cond) (a : Array Jvm.Value) (st : Jvm.State) : (allAtoms ts).before a st = ts.all (fun c => c.before a st) := by
  induction ts with
  | nil => rfl
  | cons c t ih =>
    show (Jvm.Cond.and c (allAtoms t)).before a st = _
    rw [Jvm.Cond.before_and, ih, List.all_cons]
def words1 : List Jvm.Cond := Jvm.Cond.code x code maxLocals ret :: tables_1
/-- a 'code' word, met by the world's own term for the bytes: nothing is compared byte by byte -/
theorem code_word {y : MethodName} {bytes : ByteArray} {mx : Nat} {rt : Option FieldType} {a : Array Value} {s : State} {m : MethodId} {meth : Method} {c : Code} (h1 : s.methodNamed? y = some m) (h2 : s.vm.method? m = some meth) (h3 : meth.code = some c) (h4 : c.code = bytes)
    (h5 : (c.maxLocals == mx && c.exceptionTable.isEmpty && decide (c.maxStack ≤ mostOperands) && decide (meth.sig.returnType = rt) && !meth.locks && decide (parseMethodDescriptor y.desc = some meth.sig)) = true) : (Jvm.Cond.code y bytes mx rt).before a s = true := by
  simp only [Bool.and_eq_true, beq_iff_eq, Bool.not_eq_true', decide_eq_true_eq] at h5
  obtain ⟨⟨⟨⟨⟨g1, g2⟩, g3⟩, g4⟩, g5⟩, g6⟩ := h5
  simp [Cond.before, Cond.holds, Cond.value, h1, h2, h3, h4, g1, g2, g3, g4, g5, g6]
def isCode : Jvm.Cond → Bool
  | .code _ _ _ _ => true
  | _ => false
theorem all_split {L : List Jvm.Cond} {P : Jvm.Cond → Bool} (h1 : L.all (fun c => isCode c || P c) = true) (h2 : ∀ c ∈ L.filter isCode, P c = true) : L.all P = true := by
  refine List.all_eq_true.mpr fun c hc => ?_
  have h := List.all_eq_true.mp h1 c hc
  rcases Bool.eq_false_or_eq_true (isCode c) with hi | hi
  · exact h2 c (List.mem_filter.mpr ⟨hc, hi⟩)
  · simpa [hi] using h
set_option maxRecDepth 65536 in
theorem w_c0 : (Jvm.Cond.code x code maxLocals ret).before args0 about1 = true := code_word (m := ⟨1, 1⟩) (meth := k1m1) (c := k1c1) (by decide +kernel) rfl rfl rfl (by decide +kernel)
set_option maxRecDepth 65536 in
theorem w_c1 : (Jvm.Cond.code ({ cls := "java/lang/Math", name := "max", desc := "(JJ)J" } : Jvm.MethodName) jdk_29_method_66_code (4 : Nat) (Option.some Jvm.ClassFile.FieldType.long)).before args0 about1 = true := code_word (m := ⟨2, 1⟩) (meth := k2m1) (c := k2c1) (by decide +kernel) rfl rfl rfl (by decide +kernel)
set_option maxRecDepth 65536 in
theorem w_c2 : (Jvm.Cond.code ({ cls := "com/example/ledgerline/ledgerline/log/Retention", name := "<init>", desc := "(JJJ)V" } : Jvm.MethodName) prog_46_method_1_code (7 : Nat) (Option.none : Option Jvm.ClassFile.FieldType)).before args0 about1 = true := code_word (m := ⟨4, 0⟩) (meth := k4m0) (c := k4c0) (by decide +kernel) rfl rfl rfl (by decide +kernel)
set_option maxRecDepth 65536 in
theorem w_c3 : (Jvm.Cond.code ({ cls := "java/lang/Record", name := "<init>", desc := "()V" } : Jvm.MethodName) jdk_30_method_1_code (1 : Nat) (Option.none : Option Jvm.ClassFile.FieldType)).before args0 about1 = true := code_word (m := ⟨3, 0⟩) (meth := k3m0) (c := k3c0) (by decide +kernel) rfl rfl rfl (by decide +kernel)
set_option maxRecDepth 65536 in
theorem w_c4 : (Jvm.Cond.code ({ cls := "java/lang/Object", name := "<init>", desc := "()V" } : Jvm.MethodName) object_method_1_code (1 : Nat) (Option.none : Option Jvm.ClassFile.FieldType)).before args0 about1 = true := code_word (m := ⟨0, 0⟩) (meth := k0m0) (c := k0c0) (by decide +kernel) rfl rfl rfl (by decide +kernel)
set_option maxRecDepth 65536 in
theorem w_c5 : (Jvm.Cond.code ({ cls := "com/example/ledgerline/ledgerline/log/Retention", name := "expired", desc := "(JJ)Z" } : Jvm.MethodName) prog_46_method_3_code (5 : Nat) (Option.some Jvm.ClassFile.FieldType.boolean)).before args0 about1 = true := code_word (m := ⟨4, 1⟩) (meth := k4m1) (c := k4c1) (by decide +kernel) rfl rfl rfl (by decide +kernel)
set_option maxRecDepth 65536 in
theorem w_c6 : (Jvm.Cond.code ({ cls := "com/example/ledgerline/ledgerline/log/RetentionExpiredPinLaw", name := "reference", desc := "(JJJ)Z" } : Jvm.MethodName) method_3_code (8 : Nat) (Option.some Jvm.ClassFile.FieldType.boolean)).before args0 about1 = true := code_word (m := ⟨1, 2⟩) (meth := k1m2) (c := k1c2) (by decide +kernel) rfl rfl rfl (by decide +kernel)
def codes1 : List Jvm.Cond := [Jvm.Cond.code x code maxLocals ret, Jvm.Cond.code ({ cls := "java/lang/Math", name := "max", desc := "(JJ)J" } : Jvm.MethodName) jdk_29_method_66_code (4 : Nat) (Option.some Jvm.ClassFile.FieldType.long), Jvm.Cond.code ({ cls := "com/example/ledgerline/ledgerline/log/Retention", name := "<init>", desc := "(JJJ)V" } : Jvm.MethodName) prog_46_method_1_code (7 : Nat) (Option.none : Option Jvm.ClassFile.FieldType), Jvm.Cond.code ({ cls := "java/lang/Record", name := "<init>", desc := "()V" } : Jvm.MethodName) jdk_30_method_1_code (1 : Nat) (Option.none : Option Jvm.ClassFile.FieldType), Jvm.Cond.code ({ cls := "java/lang/Object", name := "<init>", desc := "()V" } : Jvm.MethodName) object_method_1_code (1 : Nat) (Option.none : Option Jvm.ClassFile.FieldType), Jvm.Cond.code ({ cls := "com/example/ledgerline/ledgerline/log/Retention", name := "expired", desc := "(JJ)Z" } : Jvm.MethodName) prog_46_method_3_code (5 : Nat) (Option.some Jvm.ClassFile.FieldType.boolean), Jvm.Cond.code ({ cls := "com/example/ledgerline/ledgerline/log/RetentionExpiredPinLaw", name := "reference", desc := "(JJJ)Z" } : Jvm.MethodName) method_3_code (8 : Nat) (Option.some Jvm.ClassFile.FieldType.boolean)]
set_option maxRecDepth 65536 in
theorem codes_eq : words1.filter isCode = codes1 := rfl
theorem w_codes : ∀ c ∈ words1.filter isCode, c.before args0 about1 = true := by
  rw [codes_eq]
  intro c hc
  simp only [codes1, List.mem_cons, List.not_mem_nil, or_false] at hc
  rcases hc with rfl | rfl | rfl | rfl | rfl | rfl | rfl
  · exact w_c0
  · exact w_c1
  · exact w_c2
  · exact w_c3
  · exact w_c4
  · exact w_c5
  · exact w_c6
set_option maxRecDepth 65536 in
theorem w_t1 : (words1.take 24).all (fun c => isCode c || c.before args0 about1) = true := by decide +kernel
set_option maxRecDepth 65536 in
theorem w_t2 : (words1.drop 24).all (fun c => isCode c || c.before args0 about1) = true := by decide +kernel
theorem w_tables : (allAtoms (Jvm.Cond.code x code maxLocals ret :: tables_1)).before args0 about1 = true := by
  rw [allAtoms_all]
  show words1.all (fun c => c.before args0 about1) = true
  refine all_split ?_ w_codes
  rw [← List.take_append_drop 24 words1, List.all_append, w_t1, w_t2]
  rfl
set_option maxRecDepth 65536 in
theorem w_case : (Jvm.Cond.and given_1 narrow_1).before args0 about1 = true := by decide +kernel
theorem w_applies : (headSpec (Jvm.Cond.code x code maxLocals ret :: tables_1) room_1).applies x e0.platform about1 = true :=
  (Spec.applies_iff w_frames).mpr ⟨w_running, w_runnable, w_alone, w_named, w_hears, w_ripe, w_room, w_tables⟩
theorem atStart : AtStart classFile x code maxLocals ret World_1 tables_1 room_1 Calls_1 rest_1 Pre_1 launch0 p0 e0 about1 theMethod args0 below0 :=
  ⟨lists_1, trivial, launch0.admits_env _ _ _, launch0.least_env, fairChoices_fair.cas, fairChoices_fair.clock, w_frames, w_args, w_heap, w_applies, trivial, trivial, w_case⟩
end start1
theorem witness_1 : WitnessClaimed_1 := ⟨start1.p0, start1.e0, start1.about1, start1.theMethod, start1.args0, start1.below0, start1.atStart⟩
end Jvm.Pilot.@@N@@
